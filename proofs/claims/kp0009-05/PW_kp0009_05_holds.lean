import PyProof.Rows.All
import Wide.All
import OpenK.AllK
import Wide.FinOn
import Flt.RightSqrt
import Flt.RightMore
import PySem.Challenge.RW_kp0009_05
set_option Elab.async false
section
open PySem PySem.W PyProof.Rows
set_option Elab.async false
set_option maxRecDepth 100000
set_option maxHeartbeats 8000000
namespace Mine
def qv : {q : Program // view PySem.Challenge.pw_kp0009_05 [0,1,3,5,6,7,8,9,10,11,12,14,17,20,21,22] = q} := by
  refine ⟨?q, ?h⟩
  case h =>
    unfold view PySem.Challenge.pw_kp0009_05
    dsimp only [List.filterMap, List.getElem?_cons_zero, List.getElem?_cons_succ]
    rfl
def q : Program := qv.1
local macro_rules | `(tactic| o_head $H) => `(tactic| (
    refine holds_open (q := Mine.q) (loose := [PySem.Str.ofString "groupby", PySem.Str.ofString "_grouper", PySem.Str.ofString "count", PySem.Str.ofString "itemgetter", PySem.Str.ofString "_rank", PySem.Str.ofString "correlation"]) (Xt := fun s => xlAt Mine.q [] s && recOk (RowW.records (OpenLaw.row PySem.Challenge.rw_kp0009_05).toRowW) s) (XP := XL Mine.q []) (Yf := Hook.obs $H) (Ya := Hook.val $H) (YP := Hook.says $H) (N := 4254) ?hl (Hook.of $H) (Hook.keeps $H) (fun s e => xl_of s (Bool.and_eq_true_iff.mp e).1) XL.keeps (by rfl) (by rfl) (by rfl) (fun s e => recFacts_of (Bool.and_eq_true_iff.mp e).2) (by first | rfl | fail "open_line: no head takes a call that writes beside a table") (by first | assumption | decide +kernel) (by decide +kernel) ⟨rfl, rfl, rfl, rfl, rfl, by decide +kernel⟩ ?hw ?hc
    case hl =>
      intro w
      unfold openEnds fencedOpening topFrom
      rw [PySem.W.Fast.te14082659384304107361, PySem.W.Fast.te10274390034422433532, PySem.W.Fast.te4187177175401517315]
      kernel_rfl!))
local macro_rules | `(tactic| o_law) => `(tactic| refine holds_law (by decide +kernel) fun said => ?_)
open_top hd for PySem.Challenge.rw_kp0009_05
end Mine
end
section
open PySem PySem.W PySem.Calls PyProof.Rows
set_option Elab.async false
set_option maxRecDepth 100000
namespace Mine
structure Hold (P : Prop) : Prop where
  out : P
section
variable {prog : Program} {w : World} {A : Around} {s : Shared} {base : Heap} {envs : List Env} {K : Frag}
  {R : Result → Shared → Prop} {name qual : Str} {params : Arguments} {body : List Stmt} {scope : Scope} {dV kV doc pm cdv ct oc : Value} {an od : Option Addr} {osl : Array (Option Value)} {f : Addr} {args : Args} {binds : List (Str × Value)}
theorem enterP (X : K.In s.heap) (hlim : s.heap.NoLimit)
    (ho : K.lookup f = some ⟨oc, od, .func (fnOf name qual params body scope dV kV doc pm an cdv ct), osl⟩) (hcd : codeIn K cdv qual = true) (hroom : A.depth < recursionLimit)
    (hbind : BindsTo s (fnOf name qual params body scope dV kV doc pm an cdv ct) args binds) (hloc : ∀ y ∈ binds, scope.names.lookup y.1 = some .local)
    (h : ∀ L' h₁, Fr s.heap L' h₁ (fun y => binds.reverse.lookup y) → News s.heap L' h₁ [] →
      wpAny (model prog w) (A.deeper (envOf qual scope L' f cdv)) (execs body (envOf qual scope L' f cdv))
        (fun fl s' => R (.ok (.ret (match fl with | .ret v => v | _ => .none))) s')
        (fun e s' => wpAny (model prog w) (A.deeper (envOf qual scope L' f cdv)) (leaving (envOf qual scope L' f cdv) e) (fun _ s'' => R (.error e) s'') (fun e' s'' => R (.error e') s'') s')
        { s with heap := h₁, toks := s.toks + binds.length })
    (hcell : ∀ x ∈ scope.names, x.2 ≠ .cell) (hco : scope.isCoroutine = false := by rfl) (hgen : scope.isGenerator = false := by rfl) (hk : scope.kind = .function := by rfl) : codeAny (model prog w) A (.call (.ref f) args) R s := by
  refine codeAny_call_def (fd := fnOf name qual params body scope dV kV doc pm an cdv ct) (body := body) (binds := binds) hroom (X _ _ ho) rfl hlim (codeRec_of X hcd) rfl hbind hcell hloc (fun h₁ hns hk₁ => ?_) hco hgen hk
  exact h s.heap.objs.size h₁ ⟨hns, hk₁, Nat.le_refl _⟩ News.nil
theorem enterC (X : K.In s.heap) (hlim : s.heap.NoLimit)
    (ho : K.lookup f = some ⟨oc, od, .func (fnOf name qual params body scope dV kV doc pm an cdv ct), osl⟩) (hcd : codeIn K cdv qual = true) (hroom : A.depth < recursionLimit)
    (hbind : BindsTo s (fnOf name qual params body scope dV kV doc pm an cdv ct) args binds) (hkind : (binds.all fun y => scope.names.lookup y.1 == some .local || scope.names.lookup y.1 == some .cell) = true)
    (hnd : ((cellsFrom 0 scope.names []).map (·.1)).Nodup)
    (h : ∀ L' h₁ tk cells, Fr s.heap L' h₁ (bindL (envOfC qual scope L' f cdv).kindOf binds fun _ => none) → News s.heap L' h₁ cells →
      CellsAre (bindC (envOfC qual scope L' f cdv).kindOf binds fun _ => none) (cellsFrom (L' + 1) scope.names []) cells →
      wpAny (model prog w) (A.deeper (envOfC qual scope L' f cdv)) (execs body (envOfC qual scope L' f cdv))
        (fun fl s' => R (.ok (.ret (match fl with | .ret v => v | _ => .none))) s')
        (fun e s' => wpAny (model prog w) (A.deeper (envOfC qual scope L' f cdv)) (leaving (envOfC qual scope L' f cdv) e) (fun _ s'' => R (.error e) s'') (fun e' s'' => R (.error e') s'') s')
        { s with heap := h₁, toks := tk })
    (hco : scope.isCoroutine = false := by rfl) (hgen : scope.isGenerator = false := by rfl) (hk : scope.kind = .function := by rfl) : codeAny (model prog w) A (.call (.ref f) args) R s := by
  refine codeAny_call_function hroom (X _ _ ho) rfl hco hgen rfl (codeRec_of X hcd) (hbind _ _ _ _ ?_)
  refine wpAny_newFunctionEnv_cells hk (kindsX hkind _) fun env' he s' x => ?_
  subst he
  refine ⟨hlim.keeps x.toInCall.keep, codeAny_func ?_⟩
  obtain ⟨h₁, tk, rfl, _⟩ := x.done
  have hk₁ := x.toInCall.keep
  obtain ⟨cells, NC, Y⟩ := Cl.news (h₀ := s.heap) (Nat.le_refl _) fun n c hm => ⟨x.cell n c (lookup_of_mem_nodup (cellsFrom_names scope.names 0 (s.heap.objs.size + 1) [] [] rfl ▸ hnd) hm), x.above n c hm⟩
  exact h s.heap.objs.size h₁ tk cells ⟨x.toInCall.ns, hk₁, Nat.le_refl _⟩ NC Y
end
section
variable {prog : Program} {w : World} {A : Around} {E : Value → Shared → Prop} {Q : Flow → Shared → Prop} {s : Shared} {env : Env} {h₀ : Heap} {L : Addr}
/-- a while that turns one name of the frame that holds an int -/
theorem While_name1 {test : Expr} {body : List Stmt} {pos : Pos} {m : Str → Option Value} {news : List (Addr × Obj)} {x : Str} {a₀ : Int} {t₀ : Tok} (Inv : Int → Prop) (μ : Int → Nat)
    (F : Fr h₀ L s.heap m) (N : News h₀ L s.heap news) (hx : m x = some (.int a₀ t₀)) (h0 : Inv a₀)
    (turn : ∀ a t h tk, Inv a → Fr h₀ L h (fun y => if y = x then some (.int a t) else m y) → News h₀ L h news →
      wpAny (model prog w) A (isTrue test env (eval test env)) (fun b s₂ =>
        if b = true then wpAny (model prog w) A (execs body env) (fun f s₃ => f = .next ∧ ∃ h' tk' m' a' t', s₃ = { s with heap := h', toks := tk' } ∧ Fr h₀ L h' m' ∧ m' x = some (.int a' t') ∧ (∀ y, y ≠ x → m' y = m y) ∧ News h₀ L h' news ∧ Inv a' ∧ μ a' < μ a) (fun _ _ => False) s₂
        else Q .next s₂) (fun _ _ => False) { s with heap := h, toks := tk }) :
    wpAny (model prog w) A (exec (.While test body [] pos) env) Q E s := by
  refine wpAny_mono (E := fun _ _ => False) ?_ (fun _ _ h => h) (fun _ _ h => h.elim)
  refine While_inv2 (fun n m' nx => nx = news ∧ ∃ a t, m' x = some (.int a t) ∧ (∀ y, y ≠ x → m' y = m y) ∧ n = μ a ∧ Inv a) F N ⟨rfl, a₀, t₀, hx, fun _ _ => rfl, rfl, h0⟩ ?_ PassesOwn.never
  rintro n m₁ nx h₁ tk₁ F₁ N₁ ⟨rfl, a, t, hm, hr, rfl, hI⟩
  have e : (fun y => if y = x then some (Value.int a t) else m y) = m₁ := by
    funext y
    by_cases h : y = x
    · subst h; simp [hm]
    · simp only [if_neg h]; exact (hr y h).symm
  refine wpAny_mono (turn a t h₁ tk₁ hI (e ▸ F₁) N₁) (fun b s₂ h₂ => ?_) fun _ _ h => h
  cases b with
  | false => simpa using h₂
  | true =>
    simp only [if_true] at h₂ ⊢
    refine wpAny_mono h₂ (fun f s₃ h₃ => ?_) fun _ _ h => h
    obtain ⟨rfl, h', tk', m', a', t', rfl, F', hm', hr', N', hI', hμ⟩ := h₃
    exact ⟨h', tk', m', nx, μ a', rfl, F', N', hμ, rfl, a', t', hm', hr', rfl, hI'⟩
end
end Mine
end
section
open PySem PySem.W PySem.Calls PyProof.Rows
set_option Elab.async false
set_option maxRecDepth 100000
namespace Mine
/-- the heap grows; the one dict at C (a block's names) may turn -/
def KeepC (C : Addr) (s s' : Shared) : Prop :=
  ∃ h' tk, s' = { s with heap := h', toks := tk } ∧ (∀ b o, b ≠ C → s.heap.get? b = some o → h'.get? b = some o) ∧ ∃ m, h'.Ns C m
def testsOf (ifs : List PySem.Expr) (env : Env) : Sem Bool :=
  forIn ifs true fun c r => if r = true then do let ok ← isTrue c env (eval c env); pure (ForInStep.yield ok) else pure (ForInStep.yield r)
section
variable {prog : Program} {w : World} {A : Around} {E : Value → Shared → Prop} {R : Result → Shared → Prop} {s : Shared} {env : Env}
theorem compLoop_go {elt target iter : PySem.Expr} {ifs : List PySem.Expr} {scope : Scope} {pos : Pos} {it acc : Value} {env : Env} (I : Nat → Shared → Prop)
    (turn : ∀ n s, I n s → wpAny (model prog w) A (pyNext it) (fun r s₁ => match r with
      | none => R (.ok .next) s₁
      | some v => wpAny (model prog w) A (letOwnedTupleGo target it v) (fun _ s₁' => wpAny (model prog w) A (assign target env v) (fun _ s₂ =>
          wpAny (model prog w) A (testsOf ifs env) (fun ok s₃ =>
            if ok = true then wpAny (model prog w) A (eval elt env) (fun x s₄ =>
              wpAny (model prog w) A (call (.builtin "list.append") [acc, x]) (fun _ s₅ => ∃ m, m < n ∧ I m s₅) (fun _ _ => False) s₄) (fun _ _ => False) s₃
            else ∃ m, m < n ∧ I m s₃) (fun _ _ => False) s₂) (fun _ _ => False) s₁') (fun _ _ => False) s₁) (fun _ _ => False) s)
    (n : Nat) (h : I n s) :
    codeAny (model prog w) A (.compLoop (.ListComp elt [⟨target, iter, ifs, 0⟩] scope pos) 0 it acc env) R s := by
  have no : ∀ {α : Type} {t : Sem α} {Q : α → Shared → Prop} {E' : Value → Shared → Prop} {s : Shared}, wpAny (model prog w) A t Q (fun _ _ => False) s → wpAny (model prog w) A t Q E' s :=
    fun h => wpAny_mono h (fun _ _ x => x) fun _ _ x => x.elim
  refine codeAny_loop rfl I (fun n s hI => ?_) n h
  show wpAny _ A ((compTurn (.ListComp elt [⟨target, iter, ifs, 0⟩] scope pos) 0 it acc env).onRaise (fun x => do noteFrame x env; theTreesLotGoes x)) _ _ s
  refine wpAny_noted ?_
  rw [compTurn_list]
  refine wpAny_bind (wpAny_standAt (wpAny_bind (wpAny_mono (turn n s hI) (fun r s₁ h₁ => ?_) fun _ _ h' => h'.elim)))
  cases r with
  | none => exact wpAny_pure h₁
  | some v =>
    refine wpAny_bind (wpAny_mono h₁ (fun _ s₁' h₁' => ?_) fun _ _ h' => h'.elim)
    refine wpAny_bind (wpAny_mono h₁' (fun _ s₂ h₂ => wpAny_bind (wpAny_mono (t := testsOf ifs env) h₂ (fun ok s₃ h₃ => ?_) fun _ _ h' => h'.elim)) fun _ _ h' => h'.elim)
    cases ok with
    | false => exact wpAny_pure ⟨rfl, by simpa using h₃⟩
    | true =>
      simp only [if_true] at h₃
      exact wpAny_bind (wpAny_bind (wpAny_mono h₃ (fun x s₄ h₄ => wpAny_bind (wpAny_mono h₄ (fun _ s₅ h₅ => wpAny_pure (wpAny_pure ⟨rfl, h₅⟩)) fun _ _ h' => h'.elim)) fun _ _ h' => h'.elim))

/-- what one turn of the block does -/
def TurnOk (prog : Program) (w : World) (A : Around) (env : Env) (target elt : PySem.Expr) (ifs : List PySem.Expr) (scope : Scope) (cl : List (Str × Addr)) (n : Nat) (wr : List Addr) (P : Nat → Value → Heap → Prop) (p : Nat → Bool)
    (F : (Addr → Prop) → Nat → Value → Heap → Prop) (s₂ : Shared) : Prop :=
  ∀ C (hide : Addr → Prop) i v h tk m, i < n → s₂.heap.objs.size ≤ C → P i v h → h.Ns C m → (∀ b o, b ∉ wr → s₂.heap.get? b = some o → h.get? b = some o) → (∀ b, hide b → h.get? b ≠ none) → hide C →
    wpAny (model prog w) A (assign target (compEnvC scope cl C env) v) (fun _ s₄ => wpAny (model prog w) A (testsOf ifs (compEnvC scope cl C env)) (fun ok s₅ => ok = p i ∧ KeepC C { s₂ with heap := h, toks := tk } s₅ ∧
      (p i = true → wpAny (model prog w) A (eval elt (compEnvC scope cl C env)) (fun y s₆ => KeepC C { s₂ with heap := h, toks := tk } s₆ ∧ F hide i y s₆.heap) (fun _ _ => False) s₅)) (fun _ _ => False) s₄) (fun _ _ => False) { s₂ with heap := h, toks := tk }

theorem comp_block_turns {elt target iter : PySem.Expr} {ifs : List PySem.Expr} {scope : Scope} {cl : List (Str × Addr)} {pos : Pos} {s₂ : Shared} {I : Addr} {fp wr : List Addr} {n : Nat} {P Md : Nat → Value → Heap → Prop}
    {St : Nat → Heap → Prop} (W : KTurns prog w A target I fp wr n P Md St) (hself : ∀ i (s : Shared) (Q : Value → Shared → Prop) (E : Value → Shared → Prop), St i s.heap → Q (.ref I) s → wpAny (model prog w) A (pyIter (.ref I)) Q E s)
    (hlive : ∀ i h, St i h → ∀ b ∈ wr, h.get? b ≠ none) (hsz : n ≤ sizeLine) (p : Nat → Bool) (F : (Addr → Prop) → Nat → Value → Heap → Prop)
    (mon : ∀ hide i y h h', (∀ b o, ¬ hide b → h.get? b = some o → h'.get? b = some o) → F hide i y h → F hide i y h') {RR : Value → Addr → Result → Shared → Prop}
    (hcell : ∀ y ∈ scope.names, y.2 ≠ .cell) (hkind : scope.kind = .function) (hst : St 0 s₂.heap) (hfp : ∀ b ∈ fp, b < s₂.heap.objs.size)
    (turn : TurnOk prog w A env target elt ifs scope cl n wr P p F s₂)
    (hRR : ∀ D C h' tk m' ys, s₂.heap.get? D = none → s₂.heap.get? C = none → D ≠ C → h'.Ns C m' → h'.get? D = some (PySem.W.listOf (List.toArray ys) ys.length) → Paired (fun i y => F (fun b => b = C ∨ b = D ∨ b ∈ wr) i y h') ((List.range n).filter p) ys →
      (∀ b o, b ∉ wr → s₂.heap.get? b = some o → h'.get? b = some o) → RR (.ref D) C (.ok .next) { s₂ with heap := h', toks := tk }) :
    wpAny (model prog w) A (newList []) (fun acc s₃ => wpAny (model prog w) A (newFunctionEnv scope env.globals cl [] env.qual none .none (some env)) (fun cenv s₄ =>
      codeAny (model prog w) A (.compStart (.ListComp elt [⟨target, iter, ifs, 0⟩] scope pos) 0 (.ref I) acc { cenv with scope := relabel scope env }) (RR acc cenv.locals) s₄) E s₃) E s₂ := by
  refine wpAny_newObj_type (wpAny_newFunctionEnv hcell (by intro y hy; simp at hy) (fun h₁ hns₁ hsb₁ => ?_) hkind)
  dsimp only at hns₁ hsb₁ ⊢
  generalize hH2 : s₂.heap.push { cls := .type "list", dict := none, data := .seq ([] : List Value).toArray } = H2 at hns₁ hsb₁ ⊢
  have hC : H2.objs.size = s₂.heap.objs.size + 1 := by rw [← hH2, Heap.size_push]
  have hDC : s₂.heap.objs.size ≠ H2.objs.size := by rw [hC]; exact Nat.ne_of_lt (Nat.lt_succ_self _)
  have hCle : s₂.heap.objs.size ≤ H2.objs.size := by rw [hC]; exact Nat.le_succ _
  have below : ∀ b, b < s₂.heap.objs.size → b ≠ H2.objs.size ∧ b ≠ s₂.heap.objs.size := fun b hb => ⟨by rw [hC]; exact Nat.ne_of_lt (Nat.lt_succ_of_lt hb), Nat.ne_of_lt hb⟩
  have hDf : s₂.heap.objs.size ∉ fp := fun hm => Nat.lt_irrefl _ (hfp _ hm)
  have hCf : H2.objs.size ∉ fp := fun hm => by have := hfp _ hm; rw [hC] at this; exact Nat.lt_irrefl _ (Nat.lt_of_succ_lt this)
  have hDw : s₂.heap.objs.size ∉ wr := fun hm => hDf (W.sub _ hm)
  have hCw : H2.objs.size ∉ wr := fun hm => hCf (W.sub _ hm)
  have old : ∀ b o, s₂.heap.get? b = some o → h₁.get? b = some o := fun b o e => hsb₁.extBut b o (below b (Heap.lt_size e)).1 (Heap.get?_push_of_some _ (hH2 ▸ Heap.get?_push_of_some _ e))
  have hacc : h₁.get? s₂.heap.objs.size = some (PySem.W.listOf (List.toArray []) 0) := hsb₁.extBut _ _ hDC (Heap.get?_push_of_some _ (hH2 ▸ Heap.get?_push_size _ rfl))
  have hst₁ : St 0 h₁ := W.frame _ _ _ hst fun b _ o e => old b o e
  have fresh : ∀ a, s₂.heap.objs.size ≤ a → s₂.heap.get? a = none := fun a ha => by
    cases e : s₂.heap.get? a with
    | none => rfl
    | some o' => exact absurd (Heap.lt_size e) (Nat.not_lt.mpr ha)
  generalize hCd : H2.objs.size = C at *
  generalize hDd : s₂.heap.objs.size = D at *
  let hide : Addr → Prop := fun b => b = C ∨ b = D ∨ b ∈ wr
  have loop : ∀ s₃ : Shared, s₃ = { s₂ with heap := h₁, toks := s₂.toks + ([] : List (Str × Value)).length } →
      codeAny (model prog w) A (.compLoop (.ListComp elt [⟨target, iter, ifs, 0⟩] scope pos) 0 (.ref I) (.ref D) (compEnvC scope cl C env)) (RR (.ref D) C) s₃ := by
    rintro s₃ rfl
    refine compLoop_go (fun k s' => ∃ h' tk m' i, ∃ ys : List Value, s' = { s₂ with heap := h', toks := tk } ∧ St i h' ∧ h'.get? D = some (PySem.W.listOf ys.toArray ys.length) ∧ h'.Ns C m' ∧ i ≤ n ∧ k = n + 1 - i ∧ ys.length ≤ i ∧
      Paired (fun i y => F hide i y h') ((List.range i).filter p) ys ∧ (∀ b o, b ∉ wr → s₂.heap.get? b = some o → h'.get? b = some o)) ?_ (n + 1)
      ⟨h₁, _, _, 0, [], rfl, hst₁, hacc, hns₁, Nat.zero_le _, rfl, Nat.le_refl _, .nil, fun b o _ e => old b o e⟩
    rintro k s' ⟨h', tk, m', i, ys, rfl, hst', hD', hn', hi, rfl, hyl, hF, hk⟩
    by_cases hlt : i < n
    · refine W.item i _ _ _ hlt hst' fun v h₂ tk₂ hMd hk₂ => ?_
      refine W.go i v _ _ _ hMd fun h₃ hP hst₃ hk₃ => ?_
      have k3 : ∀ b o, b ∉ wr → h'.get? b = some o → h₃.get? b = some o := fun b o hb e => hk₃ b o hb (hk₂ b o hb e)
      have hn₃ : h₃.Ns C m' := hn'.at' fun o e => k3 _ o hCw e
      have hD₃ : h₃.get? D = some (PySem.W.listOf ys.toArray ys.length) := k3 _ _ hDw hD'
      have hl3 : ∀ b, hide b → h₃.get? b ≠ none := fun b hb => by
        rcases hb with rfl | rfl | hb
        · obtain ⟨o, _, _, ho, _⟩ := hn₃; rw [ho]; exact fun q => (nomatch q)
        · rw [hD₃]; exact fun q => (nomatch q)
        · exact hlive _ _ hst₃ b hb
      refine wpAny_mono (turn C hide i v h₃ tk₂ m' hlt (hDd ▸ hCle) hP hn₃ (fun b o hb e => k3 b o hb (hk b o hb e)) hl3 (.inl rfl)) (fun _ s₄ h₄ => wpAny_mono h₄ (fun ok s₅ h₅ => ?_) fun _ _ x => x) fun _ _ x => x
      obtain ⟨hok, ⟨h5, tk5, rfl, hk5, m5, hn5⟩, helt⟩ := h₅
      have hF3 : Paired (fun i y => F hide i y h5) ((List.range i).filter p) ys := by
        refine Paired.mono (fun a b hy => mon _ _ _ _ _ (fun b o hb e => ?_) hy) hF
        exact hk5 b o (fun q => hb (.inl q)) (k3 b o (fun q => hb (.inr (.inr q))) e)
      have hD5 : h5.get? D = some (PySem.W.listOf ys.toArray ys.length) := hk5 _ _ hDC hD₃
      have hst5 : St (i + 1) h5 := W.frame _ _ _ hst₃ fun b hb o e => hk5 b o (fun q => hCf (q ▸ hb)) e
      have hold5 : ∀ b o, b ∉ wr → s₂.heap.get? b = some o → h5.get? b = some o := fun b o hb e => hk5 b o (below b (hDd ▸ Heap.lt_size e)).1 (k3 b o hb (hk b o hb e))
      subst hok
      cases hp : p i with
      | false =>
        simp only [Bool.false_eq_true, if_false]
        refine ⟨n + 1 - (i + 1), by omega, h5, tk5, m5, i + 1, ys, rfl, hst5, hD5, hn5, hlt, rfl, by omega, ?_, hold5⟩
        rw [List.range_succ, List.filter_append]; simpa [hp] using hF3
      | true =>
        simp only [if_true]
        refine wpAny_mono (helt hp) (fun y s₆ h₆ => ?_) fun _ _ x => x
        obtain ⟨⟨h6, tk6, e6, hk6, m6, hn6⟩, hFy⟩ := h₆
        subst e6
        have hD6 : h6.get? D = some (PySem.W.listOf ys.toArray ys.length) := hk6 _ _ hDC hD₃
        refine append_at (hsz := by show ys.toArray.size ≤ sizeLine; rw [List.size_toArray]; omega) hD6 fun h7 hs7 hD7 => ?_
        have hst6 : St (i + 1) h6 := W.frame _ _ _ hst₃ fun b hb o e => hk6 b o (fun q => hCf (q ▸ hb)) e
        refine ⟨n + 1 - (i + 1), by omega, h7, tk6, m6, i + 1, ys ++ [y], rfl, W.frame _ _ _ hst6 fun b hb o e => hs7.extBut b o (fun q => hDf (q ▸ hb)) e, ?_, hn6.sameBut hs7 (Ne.symm hDC), hlt, rfl, by simp; omega, ?_, ?_⟩
        · rw [hD7]; simp [PySem.W.listOf]
        · rw [List.range_succ, List.filter_append]
          have m7 : ∀ j z, F hide j z h6 → F hide j z h7 := fun j z hz => mon _ _ _ _ _ (fun b o hb e => hs7.extBut b o (fun q => hb (.inr (.inl q))) e) hz
          have hF6 : Paired (fun i y => F hide i y h7) ((List.range i).filter p) ys := by
            refine Paired.mono (fun a b hy => m7 _ _ (mon _ _ _ _ _ (fun b o hb e => ?_) hy)) hF
            exact hk6 b o (fun q => hb (.inl q)) (k3 b o (fun q => hb (.inr (.inr q))) e)
          simpa [hp] using Paired.snoc hF6 (m7 _ _ hFy)
        · intro b o hb e
          exact hs7.extBut b o (below b (hDd ▸ Heap.lt_size e)).2 (hk6 b o (below b (hDd ▸ Heap.lt_size e)).1 (k3 b o hb (hk b o hb e)))
    · obtain rfl : i = n := by omega
      refine W.done _ _ _ hst' fun h₂ tk₂ hk₂ => ?_
      refine hRR D C h₂ tk₂ m' ys (fresh _ (Nat.le_refl _)) (fresh _ hCle) hDC (hn'.at' fun o e => hk₂ _ o hCw e) (hk₂ _ _ hDw hD') (Paired.mono (fun a b hy => mon _ _ _ _ _ (fun b o hb e => ?_) hy) hF) fun b o hb e => hk₂ b o hb (hk b o hb e)
      exact hk₂ b o (fun q => hb (.inr (.inr q))) e
  exact codeAny_compStart_list (loop _ rfl) (hself 0 _ _ _ hst₁ (loop _ rfl))
end
end Mine
end
section
open PySem PySem.W PySem.Calls PyProof.Rows
set_option Elab.async false
set_option maxRecDepth 100000
namespace Mine
theorem paired_range' {its : List Value} {Fv : Value → Value → Prop} : ∀ (l : List Value) (k : Nat) (ys : List Value), (∀ i : Nat, l[i]? = its[k + i]?) →
    Paired (fun i y => ∃ v, its[i]? = some v ∧ Fv v y) (List.range' k l.length) ys → Paired Fv l ys
  | [], _, _, _, h => by cases h; exact .nil
  | a :: l, k, _, e, h => by
    rw [List.length_cons, List.range'_succ] at h
    cases h with
    | cons hv ht =>
      obtain ⟨v, hv, hf⟩ := hv
      have := e 0
      rw [Nat.add_zero, hv] at this
      cases (Option.some.inj this : a = v)
      exact .cons hf (paired_range' l (k + 1) _ (fun i => by have := e (i + 1); rw [List.getElem?_cons_succ] at this; rw [this, Nat.add_assoc, Nat.add_comm 1 i]) ht)
theorem paired_range {its : List Value} {Fv : Value → Value → Prop} {ys : List Value} (h : Paired (fun i y => ∃ v, its[i]? = some v ∧ Fv v y) (List.range its.length) ys) : Paired Fv its ys :=
  paired_range' its 0 ys (fun i => by rw [Nat.zero_add]) (by rw [← List.range_eq_range']; exact h)
section
variable {prog : Program} {w : World} {A : Around} {E : Value → Shared → Prop} {s : Shared} {env : Env} {h₀ : Heap} {L : Addr} {m : Str → Option Value} {news : List (Addr × Obj)}
/-- an element's evaluation: the block's dict C binds x to v -/
def ElOk (prog : Program) (w : World) (A : Around) (env : Env) (elt : PySem.Expr) (scope : Scope) (cl : List (Str × Addr)) (x : Str) (s₁ : Shared) (v : Value) (Fv : Value → Prop) : Prop :=
  ∀ C h tk m', h.Ns C m' → m' x = some v → (∀ b o, s₁.heap.get? b = some o → h.get? b = some o) →
    wpAny (model prog w) A (eval elt (compEnvC scope cl C env)) (fun y s₆ => (∃ h6 tk6, s₆ = { s₁ with heap := h6, toks := tk6 } ∧ ∀ b o, h.get? b = some o → h6.get? b = some o) ∧ Fv y) (fun _ _ => False) { s₁ with heap := h, toks := tk }

theorem turnOk_name {elt : PySem.Expr} {x : Str} {px : Pos} {scope : Scope} {cl : List (Str × Addr)} {its : Array Value} {wr : List Addr} {Fv : Value → Value → Prop} {s₁ s₂ : Shared} (hkind : scope.kind = .function) (hx : scope.names.lookup x = some .local)
    (hs : ∃ h tk, s₂ = { s₁ with heap := h, toks := tk }) (hk : ∀ b o, s₁.heap.get? b = some o → b ∉ wr ∧ s₂.heap.get? b = some o) (he : ∀ (i : Nat) v, its[i]? = some v → ElOk prog w A env elt scope cl x s₁ v (Fv v)) :
    TurnOk prog w A env (.Name x px) elt [] scope cl its.size wr (fun i v _ => its[i]? = some v) (fun _ => true) (fun _ i y _ => ∃ v, its.toList[i]? = some v ∧ Fv v y) s₂ := by
  obtain ⟨h2, tk2, rfl⟩ := hs
  intro C hide i v h tk m' hi hC hv hn hkeep hlive hh
  refine wpAny_assign_Name (wpAny_storeName_local (lookup_relabel_local hx) hn (fun h' hn' hs' => ?_) (by simp [compEnvC, relabel, hkind]))
  refine wpAny_tests_nil ⟨rfl, ⟨h', _, rfl, fun b o hb e => (hs'.2 b hb).trans e, _, hn'⟩, fun _ => ?_⟩
  have hCs : ∀ b o, s₁.heap.get? b = some o → b ≠ C := fun b o e q => by
    have := Heap.lt_size (hk b o e).2
    rw [q] at this
    exact absurd this (Nat.not_lt.mpr hC)
  have k1 : ∀ b o, s₁.heap.get? b = some o → h'.get? b = some o := fun b o e => (hs'.2 b (hCs b o e)).trans (hkeep b o (hk b o e).1 (hk b o e).2)
  refine wpAny_mono (he i v hv C h' (tk + 1) _ hn' (by simp) k1) (fun y s₆ h6 => ?_) fun _ _ q => q
  obtain ⟨⟨h6, tk6, rfl, hk6⟩, hF⟩ := h6
  refine ⟨⟨h6, tk6, rfl, fun b o hb e => hk6 b o ((hs'.2 b hb).trans e), _, hn'.keeps hk6⟩, v, by simpa using hv, hF⟩

theorem block_list {elt iter : PySem.Expr} {x : Str} {px : Pos} {scope : Scope} {cl : List (Str × Addr)} {pos : Pos} {s₁ : Shared} {ax : Addr} {its : Array Value} {Fv : Value → Value → Prop} {RR : Value → Addr → Result → Shared → Prop}
    (hA : A.handled = none) (hcell : ∀ y ∈ scope.names, y.2 ≠ .cell) (hkind : scope.kind = .function) (hx : scope.names.lookup x = some .local) (hl : s₁.heap.IsList ax its) (hsz : its.size ≤ sizeLine)
    (he : ∀ (i : Nat) v, its[i]? = some v → ElOk prog w A env elt scope cl x s₁ v (Fv v))
    (hRR : ∀ D C h' tk m' ys, s₁.heap.get? D = none → s₁.heap.get? C = none → D ≠ C → h'.Ns C m' → h'.get? D = some (listOf (List.toArray ys) ys.length) → Paired Fv its.toList ys →
      (∀ b o, s₁.heap.get? b = some o → h'.get? b = some o) → RR (.ref D) C (.ok .next) { s₁ with heap := h', toks := tk }) :
    wpAny (model prog w) A (pyIter (.ref ax)) (fun it s₂ => wpAny (model prog w) A (newList []) (fun acc s₃ => wpAny (model prog w) A (newFunctionEnv scope env.globals cl [] env.qual none .none (some env)) (fun cenv s₄ =>
      codeAny (model prog w) A (.compStart (.ListComp elt [⟨.Name x px, iter, [], 0⟩] scope pos) 0 it acc { cenv with scope := relabel scope env }) (RR acc cenv.locals) s₄) E s₃) E s₂) E s₁ := by
  have hlt : ax < s₁.heap.objs.size := by obtain ⟨_, e, _⟩ := hl; exact Heap.lt_size e
  refine wpAny_pyIter_list hl ?_
  have up : ∀ b o, s₁.heap.get? b = some o → (s₁.heap.push { cls := .type "list_iterator", data := .fields #[.ref ax, .int 0 0] }).get? b = some o := fun b o e => Heap.get?_push_of_some _ e
  have W := Walks.list (prog := prog) (w := w) (A := A) hA s₁.heap.objs.size ax (Nat.ne_of_lt hlt) its
  refine comp_block_turns (KTurns.ofWalks (target := .Name x px) W (fun i v s Q E _ hq => wpAny_of_eq (show letOwnedTupleGo (.Name x px) _ v = pure () from rfl) hq)) W.self ?_ hsz (fun _ => true) (fun _ i y _ => ∃ v, its.toList[i]? = some v ∧ Fv v y) (fun _ _ _ _ _ _ h => h) hcell hkind
    ⟨⟨_, Heap.get?_push_size _ rfl, rfl, rfl⟩, hl.push _⟩ (fun b hb => ?_) (turnOk_name hkind hx ⟨_, _, rfl⟩ (fun b o e => ⟨?_, up b o e⟩) he) ?_
  · rintro i h ⟨⟨_, e1, _⟩, _⟩ b hb
    rw [List.mem_singleton.mp hb, e1]; exact fun q => (nomatch q)
  · show b < (s₁.heap.push _).objs.size
    rw [Heap.size_push]
    rcases List.mem_cons.mp hb with rfl | hb
    · exact Nat.lt_succ_self _
    · rw [List.mem_singleton.mp hb]; exact Nat.lt_succ_of_lt hlt
  · intro q
    rw [List.mem_singleton.mp q] at e
    exact absurd (Heap.lt_size e) (Nat.lt_irrefl _)
  · intro D C h' tk m' ys hD hC hDC hn hl' hp hk
    have none_of : ∀ c, (s₁.heap.push { cls := .type "list_iterator", data := .fields #[.ref ax, .int 0 0] }).get? c = none → s₁.heap.get? c = none := fun c e => by
      cases q : s₁.heap.get? c with
      | none => rfl
      | some o => rw [up c o q] at e; cases e
    refine hRR D C h' tk m' ys (none_of _ hD) (none_of _ hC) hDC hn hl' ?_ fun b o e => hk b o (fun q => ?_) (up b o e)
    · refine paired_range ?_
      rw [List.filter_eq_self.mpr (fun _ _ => rfl)] at hp
      simpa using hp
    · rw [List.mem_singleton.mp q] at e
      exact absurd (Heap.lt_size e) (Nat.lt_irrefl _)

theorem Fr.grow {h h' : Heap} (F : Fr h₀ L h m) (k : ∀ b o, h.get? b = some o → h'.get? b = some o) : Fr h₀ L h' m := F.keeps k
theorem News.grow {h h' : Heap} (N : News h₀ L h news) (k : ∀ b o, h.get? b = some o → h'.get? b = some o) : News h₀ L h' news := N.grown k
theorem News.new {h h' : Heap} {D : Addr} {o : Obj} (F : Fr h₀ L h m) (N : News h₀ L h' news) (hD : h'.get? D = some o) (hn : h.get? D = none) : News h₀ L h' ((D, o) :: news) := fun p hp => by
  rcases List.mem_cons.mp hp with rfl | hp
  · refine ⟨hD, fun q => ?_, ?_⟩
    · obtain ⟨oL, _, _, hL, _⟩ := F.ns
      have : h.get? D = some oL := by rw [show D = L from q]; exact hL
      rw [hn] at this; cases this
    · cases q : h₀.get? D with
      | none => rfl
      | some o' => rw [F.keep D o' q] at hn; cases hn
  · exact N p hp

/-- [elt for x in ITER] as a value -/
theorem ListComp_list {elt iter : PySem.Expr} {x : Str} {px : Pos} {scope : Scope} {cl : List (Str × Addr)} {pos : Pos} {Q : Value → Shared → Prop} {Fv : Value → Value → Prop} (hA : A.handled = none)
    (hclos : closureFor scope env = pure cl) (hcell : ∀ y ∈ scope.names, y.2 ≠ .cell) (hkind : scope.kind = .function)
    (hnames : ∀ y ∈ scope.names, y.2 = .local → scope.names.lookup y.1 = some .local) (hx : scope.names.lookup x = some .local)
    (h : wpAny (model prog w) A (eval iter env) (fun xv s₁ => ∃ ax its m' news', xv = .ref ax ∧ Fr h₀ L s₁.heap m' ∧ News h₀ L s₁.heap news' ∧ s₁.heap.IsList ax its ∧ its.size ≤ sizeLine ∧ (∀ (i : Nat) v, its[i]? = some v → ElOk prog w A env elt scope cl x s₁ v (Fv v)) ∧
      ∀ D h' tk ys, Fr h₀ L h' m' → News h₀ L h' ((D, listOf (List.toArray ys) ys.length) :: news') → Paired Fv its.toList ys → Q (.ref D) { s₁ with heap := h', toks := tk }) E s)
    (hs : ∀ x, foldedSetIterable iter env x = pure x := by intro _; rfl) :
    wpAny (model prog w) A (eval (.ListComp elt [⟨.Name x px, iter, [], 0⟩] scope pos) env) Q E s := by
  rw [eval_ListComp]
  refine wpAny_comprehension_free (use := none) rfl hs hclos hkind hnames (wpAny_mono h (fun xv s₁ h₁ => ?_) fun _ _ e => e)
  obtain ⟨ax, its, m', news', rfl, F, N, hl, hsz, he, hQ⟩ := h₁
  refine block_list (RR := fun acc C => compPost (model prog w) A E none Q acc C) hA hcell hkind hx hl hsz he ?_
  intro D C h' tk m'' ys hD hC hDC hn hl' hp hk
  refine ⟨m'', hn, fun h'' hs'' => ?_⟩
  have k2 : ∀ b o, s₁.heap.get? b = some o → h''.get? b = some o := fun b o e => (hs''.2 b (by rintro rfl; rw [hC] at e; cases e)).trans (hk b o e)
  exact hQ D h'' tk ys (F.keeps k2) (News.new F (N.grown k2) ((hs''.2 D hDC).trans hl') hD) hp

/-- y = [elt for x in ITER] -/
theorem Assign_list {elt iter : PySem.Expr} {x y : Str} {px py : Pos} {scope : Scope} {cl : List (Str × Addr)} {pos spos : Pos} {Q : Flow → Shared → Prop} {Fv : Value → Value → Prop} (hA : A.handled = none) (hLe : env.locals = L)
    (hsw : swapsWith (.ListComp elt [⟨.Name x px, iter, [], 0⟩] scope pos) (some (.Name y py)) spos.line env = pure true)
    (hclos : closureFor scope env = pure cl) (hcell : ∀ z ∈ scope.names, z.2 ≠ .cell) (hkind : scope.kind = .function)
    (hnames : ∀ z ∈ scope.names, z.2 = .local → scope.names.lookup z.1 = some .local) (hx : scope.names.lookup x = some .local)
    (hy : env.kindOf y = some .local) (hp : (env.scope.kind == .class || (env.scope.kind == .module && env.locals != env.globals)) = false)
    (h : wpAny (model prog w) A (eval iter env) (fun xv s₁ => ∃ ax its m' news', xv = .ref ax ∧ Fr h₀ L s₁.heap m' ∧ News h₀ L s₁.heap news' ∧ s₁.heap.IsList ax its ∧ its.size ≤ sizeLine ∧ (∀ (i : Nat) v, its[i]? = some v → ElOk prog w A env elt scope cl x s₁ v (Fv v)) ∧
      ∀ D h' tk ys, Fr h₀ L h' (fun z => if z = y then some (.ref D) else m' z) → News h₀ L h' ((D, listOf (List.toArray ys) ys.length) :: news') → Paired Fv its.toList ys → Q .next { s₁ with heap := h', toks := tk }) E s)
    (hs : ∀ x, foldedSetIterable iter env x = pure x := by intro _; rfl) :
    wpAny (model prog w) A (exec (.Assign [.Name y py] (.ListComp elt [⟨.Name x px, iter, [], 0⟩] scope pos) spos) env) Q E s := by
  subst hLe
  rw [exec_Assign_Name_used _ _ _ _ hsw]
  refine wpAny_bind (wpAny_standAt (wpAny_bind ?_))
  show wpAny _ A (do let _ ← comprehension (.ListComp elt [⟨.Name x px, iter, [], 0⟩] scope pos) scope env _ (newList []) false (eval iter env) (some (assign (.Name y py) env))) _ _ s
  refine wpAny_bind (wpAny_mono (wpAny_comprehension_free (use := some (assign (.Name y py) env)) (Q := fun _ s' => Q .next s') rfl hs hclos hkind hnames
    (wpAny_mono h (fun xv s₁ h₁ => ?_) fun _ _ e => e)) (fun _ s' hq => wpAny_pure (wpAny_pure hq)) fun _ _ e => e)
  obtain ⟨ax, its, m', news', rfl, F, N, hl, hsz, he, hQ⟩ := h₁
  refine block_list (RR := fun acc C => compPost (model prog w) A E (some (assign (.Name y py) env)) (fun _ s' => Q .next s') acc C) hA hcell hkind hx hl hsz he ?_
  intro D C h' tk m'' ys hD hC hDC hn hl' hp' hk
  have F1 := F.keeps hk
  have hCL : C ≠ env.locals := by rintro rfl; obtain ⟨o, _, _, ho, _⟩ := F.ns; rw [hC] at ho; cases ho
  have hDL : D ≠ env.locals := by rintro rfl; obtain ⟨o, _, _, ho, _⟩ := F.ns; rw [hD] at ho; cases ho
  show wpAny _ A (assign (.Name y py) env (.ref D)) _ _ _
  refine wpAny_assign_Name (wpAny_storeName_local hy F1.ns (fun h₂ hn₂ hs₂ => ?_) hp)
  refine ⟨m'', hn.sameBut hs₂ hCL, fun h₃ hs₃ => ?_⟩
  have N1 : News h₀ env.locals h' ((D, listOf (List.toArray ys) ys.length) :: news') := News.new F (N.grown hk) hl' hD
  have N2 := N1.set hs₂
  have F2 := F1.set hn₂ hs₂
  have off : ∀ c, s₁.heap.get? c ≠ none → c ≠ C := fun c hc q => hc (q ▸ hC)
  refine hQ D h₃ _ ys ⟨F2.ns.sameBut hs₃ (Ne.symm hCL), fun b o e => (hs₃.2 b (off b (by rw [F.keep b o e]; exact fun q => (nomatch q)))).trans (F2.keep b o e), F2.above⟩ (fun p hp2 => ?_) hp'
  refine ⟨(hs₃.2 p.1 ?_).trans (N2 p hp2).1, (N2 p hp2).2⟩
  rcases List.mem_cons.mp hp2 with rfl | hp3
  · exact hDC
  · exact off _ (by rw [(N p hp3).1]; exact fun q => (nomatch q))
end
end Mine
end
section
open PySem PySem.W PySem.Calls PyProof.Rows
set_option Elab.async false
set_option maxRecDepth 100000
namespace Mine
section
variable {prog : Program} {w : World} {A : Around} {E : Value → Shared → Prop} {s : Shared} {env : Env} {h₀ : Heap} {L : Addr} {m : Str → Option Value} {news : List (Addr × Obj)}
/-- an element's evaluation: the block's dict C binds x and x₂; Fv tells of the heap before, the value, the heap after -/
def ElOk2 (prog : Program) (w : World) (A : Around) (env : Env) (elt : PySem.Expr) (scope : Scope) (cl : List (Str × Addr)) (x x₂ : Str) (g : Heap) (s₁ : Shared) (v v₂ : Value) (Fv : Heap → Value → Heap → Prop) : Prop :=
  ∀ C h tk m', h.Ns C m' → m' x = some v → m' x₂ = some v₂ → (∀ b o, g.get? b = some o → h.get? b = some o) →
    wpAny (model prog w) A (eval elt (compEnvC scope cl C env)) (fun y s₆ => (∃ h6 tk6, s₆ = { s₁ with heap := h6, toks := tk6 } ∧ ∀ b o, h.get? b = some o → h6.get? b = some o) ∧ Fv h y s₆.heap) (fun _ _ => False) { s₁ with heap := h, toks := tk }

def ZipSt (z TI TO i1 i2 l1 l2 : Addr) (xs ys : Array Value) (i : Nat) (h : Heap) : Prop :=
  IsZip h z TI TO .none ∧ IsPair h TI (.ref i1) (.ref i2) ∧ (∃ a b, IsPair h TO a b) ∧ h.IsListIter i1 l1 i ∧ h.IsListIter i2 l2 i ∧ h.IsList l1 xs ∧ h.IsList l2 ys

theorem block_zip {elt iter : PySem.Expr} {x x₂ : Str} {px px₂ tp : Pos} {tk₀ : Nat} {scope : Scope} {cl : List (Str × Addr)} {pos : Pos} {s₁ : Shared} {g : Heap} {z TI TO i1 i2 l1 l2 : Addr} {xs ys : Array Value}
    {Fv : Value → Value → Heap → Value → Heap → Prop} {F : (Addr → Prop) → Nat → Value → Heap → Prop} {RR : Value → Addr → Result → Shared → Prop}
    (hA : A.handled = none) (hcell : ∀ y ∈ scope.names, y.2 ≠ .cell) (hkind : scope.kind = .function) (hx : scope.names.lookup x = some .local) (hx₂ : scope.names.lookup x₂ = some .local) (hxx : x ≠ x₂)
    (D : ZipApart z TI TO i1 i2 l1 l2) (hst : ZipSt z TI TO i1 i2 l1 l2 xs ys 0 s₁.heap) (hgk : ∀ b o, g.get? b = some o → s₁.heap.get? b = some o) (gz : g.get? z = none) (gTO : g.get? TO = none) (gi1 : g.get? i1 = none) (gi2 : g.get? i2 = none)
    (hsz : min xs.size ys.size ≤ sizeLine) (he : ∀ (i : Nat) v v₂, xs[i]? = some v → ys[i]? = some v₂ → ElOk2 prog w A env elt scope cl x x₂ g s₁ v v₂ (Fv v v₂))
    (conv : ∀ (i : Nat) v v₂ hide h y h6, xs[i]? = some v → ys[i]? = some v₂ → (∀ b, hide b → h.get? b ≠ none) → (∀ b o, g.get? b = some o → h.get? b = some o) → Fv v v₂ h y h6 → F hide i y h6)
    (mon : ∀ hide i y h h', (∀ b o, ¬ hide b → h.get? b = some o → h'.get? b = some o) → F hide i y h → F hide i y h')
    (hRR : ∀ D C h' tk m' zs, g.get? D = none → g.get? C = none → D ≠ C → h'.Ns C m' → h'.get? D = some (listOf (List.toArray zs) zs.length) → Paired (fun i y => F (fun b => b = C ∨ b = D ∨ b ∈ [z, TO, i1, i2]) i y h') (List.range (min xs.size ys.size)) zs →
      (∀ b o, g.get? b = some o → h'.get? b = some o) → RR (.ref D) C (.ok .next) { s₁ with heap := h', toks := tk }) :
    wpAny (model prog w) A (pyIter (.ref z)) (fun it s₂ => wpAny (model prog w) A (newList []) (fun acc s₃ => wpAny (model prog w) A (newFunctionEnv scope env.globals cl [] env.qual none .none (some env)) (fun cenv s₄ =>
      codeAny (model prog w) A (.compStart (.ListComp elt [⟨.Tuple [.Name x px, .Name x₂ px₂] tk₀ tp, iter, [], 0⟩] scope pos) 0 it acc { cenv with scope := relabel scope env }) (RR acc cenv.locals) s₄) E s₃) E s₂) E s₁ := by
  refine wpAny_pyIter_zip hst.1 ?_
  have W := (WalksT.zip2 (prog := prog) (w := w) (A := A) hA z TI TO i1 i2 l1 l2 D xs ys).toU
  have gw : ∀ b o, g.get? b = some o → b ∉ [z, TO, i1, i2] := fun b o e hb => by
    simp only [List.mem_cons, List.not_mem_nil, or_false] at hb
    rcases hb with rfl | rfl | rfl | rfl
    · rw [gz] at e; cases e
    · rw [gTO] at e; cases e
    · rw [gi1] at e; cases e
    · rw [gi2] at e; cases e
  refine comp_block_turns (KTurns.ofWalksU W) W.self ?_ hsz (fun _ => true) F mon hcell hkind hst (fun b hb => ?_) ?_ ?_
  · rintro i h ⟨q1, q2, ⟨a, b, q3⟩, ⟨o1, q4, _⟩, ⟨o2, q5, _⟩, _⟩ c hc
    simp only [List.mem_cons, List.not_mem_nil, or_false] at hc
    rcases hc with rfl | rfl | rfl | rfl
    · rw [show h.get? c = some _ from q1]; exact fun q => nomatch q
    · rw [show h.get? c = some _ from q3]; exact fun q => nomatch q
    · rw [q4]; exact fun q => nomatch q
    · rw [q5]; exact fun q => nomatch q
  · obtain ⟨q1, q2, ⟨a, b', q3⟩, ⟨o1, q4, _⟩, ⟨o2, q5, _⟩, ⟨o3, q6, _⟩, ⟨o4, q7, _⟩⟩ := hst
    simp only [List.mem_cons, List.not_mem_nil, or_false] at hb
    rcases hb with rfl | rfl | rfl | rfl | rfl | rfl | rfl
    · exact Heap.lt_size q1
    · exact Heap.lt_size q2
    · exact Heap.lt_size q3
    · exact Heap.lt_size q4
    · exact Heap.lt_size q5
    · exact Heap.lt_size q6
    · exact Heap.lt_size q7
  · rintro C hide i _ h tk m' hi hC ⟨T, _, rfl, ⟨v, v₂, hv, hv₂, rfl⟩, hT⟩ hn hkeep hlive hh
    have hCs : ∀ b o, g.get? b = some o → b ≠ C := fun b o e q => by
      have := Heap.lt_size (hgk b o e)
      rw [q] at this
      exact absurd this (Nat.not_lt.mpr hC)
    refine assign_Tuple_tuple hA hT rfl rfl fun h₅ he5 => ?_
    have he' : ∀ b o, h.get? b = some o → h₅.get? b = some o := fun b o e => he5 b o (Nat.ne_of_lt (Heap.lt_size e)) e
    refine assignInOrder_cons (wpAny_assign_Name (wpAny_storeName_local (lookup_relabel_local hx) (hn.at' fun o e => he' _ o e) (fun h₆ hn₆ hs₆ => ?_) (by simp [compEnvC, relabel, hkind])))
    refine assignInOrder_cons (wpAny_assign_Name (wpAny_storeName_local (lookup_relabel_local hx₂) hn₆ (fun h₃ hn₃ hs₃ => ?_) (by simp [compEnvC, relabel, hkind])))
    refine assignInOrder_nil ?_
    have old3 : ∀ b o, b ≠ C → h.get? b = some o → h₃.get? b = some o := fun b o hb e => hs₃.extBut b o hb (hs₆.extBut b o hb (he' b o e))
    refine wpAny_tests_nil ⟨rfl, ⟨h₃, _, rfl, old3, _, hn₃⟩, fun _ => ?_⟩
    have k3 : ∀ b o, g.get? b = some o → h₃.get? b = some o := fun b o e => old3 b o (hCs b o e) (hkeep b o (gw b o e) (hgk b o e))
    refine wpAny_mono (he i v v₂ hv hv₂ C h₃ _ _ hn₃ (by simp [hxx]) (by simp) k3) (fun y s₆ h6 => ?_) fun _ _ q => q
    obtain ⟨⟨h6, tk6, rfl, hk6⟩, hF⟩ := h6
    refine ⟨⟨h6, tk6, rfl, fun b o hb e => hk6 b o (old3 b o hb e), _, hn₃.keeps hk6⟩, conv i v v₂ hide h₃ y h6 hv hv₂ (fun b hb => ?_) k3 hF⟩
    cases q : h.get? b with
    | none => exact absurd q (hlive b hb)
    | some o =>
      by_cases hbC : b = C
      · obtain ⟨o', _, _, ho', _⟩ := hn₃
        rw [hbC, show h₃.get? C = some o' from ho']; exact fun q => nomatch q
      · rw [old3 b o hbC q]; exact fun q => nomatch q
  · intro D' C h' tk m' zs hD hC hDC hn hl' hp hk
    have none_of : ∀ c, s₁.heap.get? c = none → g.get? c = none := fun c e => by
      cases q : g.get? c with
      | none => rfl
      | some o => rw [hgk c o q] at e; cases e
    refine hRR D' C h' tk m' zs (none_of _ hD) (none_of _ hC) hDC hn hl' ?_ fun b o e => hk b o (gw b o e) (hgk b o e)
    rw [List.filter_eq_self.mpr (fun _ _ => rfl)] at hp
    exact hp

/-- [elt for x, x₂ in zip(a, b)] as a value -/
theorem ListComp_zip {elt iter : PySem.Expr} {x x₂ : Str} {px px₂ tp : Pos} {tk₀ : Nat} {scope : Scope} {cl : List (Str × Addr)} {pos : Pos} {Q : Value → Shared → Prop} {Fv : Value → Value → Heap → Value → Heap → Prop} {F : (Addr → Prop) → Nat → Value → Heap → Prop} (hA : A.handled = none)
    (hclos : closureFor scope env = pure cl) (hcell : ∀ y ∈ scope.names, y.2 ≠ .cell) (hkind : scope.kind = .function)
    (hnames : ∀ y ∈ scope.names, y.2 = .local → scope.names.lookup y.1 = some .local) (hx : scope.names.lookup x = some .local) (hx₂ : scope.names.lookup x₂ = some .local) (hxx : x ≠ x₂)
    (mon : ∀ hide i y h h', (∀ b o, ¬ hide b → h.get? b = some o → h'.get? b = some o) → F hide i y h → F hide i y h')
    (h : wpAny (model prog w) A (eval iter env) (fun xv s₁ => ∃ g z TI TO i1 i2 l1 l2 xs ys m' news', xv = .ref z ∧ ZipApart z TI TO i1 i2 l1 l2 ∧ ZipSt z TI TO i1 i2 l1 l2 xs ys 0 s₁.heap ∧
      (∀ b o, g.get? b = some o → s₁.heap.get? b = some o) ∧ (g.get? z = none ∧ g.get? TO = none ∧ g.get? i1 = none ∧ g.get? i2 = none) ∧ Fr h₀ L g m' ∧ News h₀ L g news' ∧ min xs.size ys.size ≤ sizeLine ∧
      (∀ (i : Nat) v v₂, xs[i]? = some v → ys[i]? = some v₂ → ElOk2 prog w A env elt scope cl x x₂ g s₁ v v₂ (Fv v v₂)) ∧
      (∀ (i : Nat) v v₂ hide h y h6, xs[i]? = some v → ys[i]? = some v₂ → (∀ b, hide b → h.get? b ≠ none) → (∀ b o, g.get? b = some o → h.get? b = some o) → Fv v v₂ h y h6 → F hide i y h6) ∧
      ∀ D h' tk zs, Fr h₀ L h' m' → News h₀ L h' ((D, listOf (List.toArray zs) zs.length) :: news') → (∀ b o, g.get? b = some o → h'.get? b = some o) → g.get? D = none → (∃ hide : Addr → Prop, hide D ∧ (∀ b, hide b → g.get? b = none) ∧ Paired (fun i y => F hide i y h') (List.range (min xs.size ys.size)) zs) → Q (.ref D) { s₁ with heap := h', toks := tk }) E s)
    (hs : ∀ x, foldedSetIterable iter env x = pure x := by intro _; rfl) :
    wpAny (model prog w) A (eval (.ListComp elt [⟨.Tuple [.Name x px, .Name x₂ px₂] tk₀ tp, iter, [], 0⟩] scope pos) env) Q E s := by
  rw [eval_ListComp]
  refine wpAny_comprehension_free (use := none) rfl hs hclos hkind hnames (wpAny_mono h (fun xv s₁ h₁ => ?_) fun _ _ e => e)
  obtain ⟨g, z, TI, TO, i1, i2, l1, l2, xs, ys, m', news', rfl, D, hst, hgk, ⟨gz, gTO, gi1, gi2⟩, F0, N0, hsz, he, conv, hQ⟩ := h₁
  refine block_zip (RR := fun acc C => compPost (model prog w) A E none Q acc C) hA hcell hkind hx hx₂ hxx D hst hgk gz gTO gi1 gi2 hsz he conv mon ?_
  intro D' C h' tk m'' zs hD hC hDC hn hl' hp hk
  refine ⟨m'', hn, fun h'' hs'' => ?_⟩
  have k2 : ∀ b o, g.get? b = some o → h''.get? b = some o := fun b o e => (hs''.2 b (by rintro rfl; rw [hC] at e; cases e)).trans (hk b o e)
  refine hQ D' h'' tk zs (F0.keeps k2) (News.new F0 (N0.grown k2) ((hs''.2 D' hDC).trans hl') hD) k2 hD ⟨fun b => b = C ∨ b = D' ∨ b ∈ [z, TO, i1, i2], .inr (.inl rfl), ?_, Paired.mono (fun i y hy => mon _ _ _ _ _ (fun b o hb e => (hs''.2 b fun q => hb (.inl q)).trans e) hy) hp⟩
  rintro b (rfl | rfl | hb)
  · exact hC
  · exact hD
  · simp only [List.mem_cons, List.not_mem_nil, or_false] at hb
    rcases hb with rfl | rfl | rfl | rfl
    · exact gz
    · exact gTO
    · exact gi1
    · exact gi2
/-- y = [elt for x, x₂ in zip(a, b)] -/
theorem Assign_zip {elt iter : PySem.Expr} {x x₂ y : Str} {px px₂ tp py : Pos} {tk₀ : Nat} {scope : Scope} {cl : List (Str × Addr)} {pos spos : Pos} {Q : Flow → Shared → Prop} {Fv : Value → Value → Heap → Value → Heap → Prop} {F : (Addr → Prop) → Nat → Value → Heap → Prop} (hA : A.handled = none) (hLe : env.locals = L)
    (hsw : swapsWith (.ListComp elt [⟨.Tuple [.Name x px, .Name x₂ px₂] tk₀ tp, iter, [], 0⟩] scope pos) (some (.Name y py)) spos.line env = pure true)
    (hclos : closureFor scope env = pure cl) (hcell : ∀ y ∈ scope.names, y.2 ≠ .cell) (hkind : scope.kind = .function)
    (hnames : ∀ y ∈ scope.names, y.2 = .local → scope.names.lookup y.1 = some .local) (hx : scope.names.lookup x = some .local) (hx₂ : scope.names.lookup x₂ = some .local) (hxx : x ≠ x₂)
    (hy : env.kindOf y = some .local) (hp : (env.scope.kind == .class || (env.scope.kind == .module && env.locals != env.globals)) = false)
    (mon : ∀ hide i y h h', (∀ b o, ¬ hide b → h.get? b = some o → h'.get? b = some o) → F hide i y h → F hide i y h')
    (h : wpAny (model prog w) A (eval iter env) (fun xv s₁ => ∃ g z TI TO i1 i2 l1 l2 xs ys m' news', xv = .ref z ∧ ZipApart z TI TO i1 i2 l1 l2 ∧ ZipSt z TI TO i1 i2 l1 l2 xs ys 0 s₁.heap ∧
      (∀ b o, g.get? b = some o → s₁.heap.get? b = some o) ∧ (g.get? z = none ∧ g.get? TO = none ∧ g.get? i1 = none ∧ g.get? i2 = none) ∧ Fr h₀ L g m' ∧ News h₀ L g news' ∧ min xs.size ys.size ≤ sizeLine ∧
      (∀ (i : Nat) v v₂, xs[i]? = some v → ys[i]? = some v₂ → ElOk2 prog w A env elt scope cl x x₂ g s₁ v v₂ (Fv v v₂)) ∧
      (∀ (i : Nat) v v₂ hide h y h6, xs[i]? = some v → ys[i]? = some v₂ → (∀ b, hide b → h.get? b ≠ none) → (∀ b o, g.get? b = some o → h.get? b = some o) → Fv v v₂ h y h6 → F hide i y h6) ∧
      ∀ D h' tk zs hide hm, Fr h₀ L h' (fun z => if z = y then some (.ref D) else m' z) → News h₀ L h' ((D, listOf (List.toArray zs) zs.length) :: news') → g.get? D = none → hide D → (∀ b, hide b → g.get? b = none) → (∀ b o, g.get? b = some o → hm.get? b = some o) → (∀ b o, b ≠ L → ¬ hide b → hm.get? b = some o → h'.get? b = some o) →
        Paired (fun i y => F hide i y hm) (List.range (min xs.size ys.size)) zs → Q .next { s₁ with heap := h', toks := tk }) E s)
    (hs : ∀ x, foldedSetIterable iter env x = pure x := by intro _; rfl) :
    wpAny (model prog w) A (exec (.Assign [.Name y py] (.ListComp elt [⟨.Tuple [.Name x px, .Name x₂ px₂] tk₀ tp, iter, [], 0⟩] scope pos) spos) env) Q E s := by
  subst hLe
  rw [exec_Assign_Name_used _ _ _ _ hsw]
  refine wpAny_bind (wpAny_standAt (wpAny_bind ?_))
  show wpAny _ A (do let _ ← comprehension (.ListComp elt [⟨.Tuple [.Name x px, .Name x₂ px₂] tk₀ tp, iter, [], 0⟩] scope pos) scope env _ (newList []) false (eval iter env) (some (assign (.Name y py) env))) _ _ s
  refine wpAny_bind (wpAny_mono (wpAny_comprehension_free (use := some (assign (.Name y py) env)) (Q := fun _ s' => Q .next s') rfl hs hclos hkind hnames
    (wpAny_mono h (fun xv s₁ h₁ => ?_) fun _ _ e => e)) (fun _ s' hq => wpAny_pure (wpAny_pure hq)) fun _ _ e => e)
  obtain ⟨g, z, TI, TO, i1, i2, l1, l2, xs, ys, m', news', rfl, D, hst, hgk, ⟨gz, gTO, gi1, gi2⟩, F0, N0, hsz, he, conv, hQ⟩ := h₁
  refine block_zip (RR := fun acc C => compPost (model prog w) A E (some (assign (.Name y py) env)) (fun _ s' => Q .next s') acc C) hA hcell hkind hx hx₂ hxx D hst hgk gz gTO gi1 gi2 hsz he conv mon ?_
  intro D' C h' tk m'' zs hD hC hDC hn hl' hp' hk
  have F1 := F0.keeps hk
  have hCL : C ≠ env.locals := by rintro rfl; obtain ⟨o, _, _, ho, _⟩ := F0.ns; rw [hC] at ho; cases ho
  have hDL : D' ≠ env.locals := by rintro rfl; obtain ⟨o, _, _, ho, _⟩ := F0.ns; rw [hD] at ho; cases ho
  show wpAny _ A (assign (.Name y py) env (.ref D')) _ _ _
  refine wpAny_assign_Name (wpAny_storeName_local hy F1.ns (fun h₂ hn₂ hs₂ => ?_) hp)
  refine ⟨m'', hn.sameBut hs₂ hCL, fun h₃ hs₃ => ?_⟩
  have N1 : News h₀ env.locals h' ((D', listOf (List.toArray zs) zs.length) :: news') := News.new F0 (N0.grown hk) hl' hD
  have N2 := N1.set hs₂
  have F2 := F1.set hn₂ hs₂
  have off : ∀ c, g.get? c ≠ none → c ≠ C := fun c hc q => hc (q ▸ hC)
  refine hQ D' h₃ _ zs (fun b => b = C ∨ b = D' ∨ b ∈ [z, TO, i1, i2]) h' ⟨F2.ns.sameBut hs₃ (Ne.symm hCL), fun b o e => (hs₃.2 b (off b (by rw [F0.keep b o e]; exact fun q => (nomatch q)))).trans (F2.keep b o e), F2.above⟩ (fun p hp2 => ?_) hD (.inr (.inl rfl)) ?_ hk (fun b o hb hh e => ?_) hp'
  · refine ⟨(hs₃.2 p.1 ?_).trans (N2 p hp2).1, (N2 p hp2).2⟩
    rcases List.mem_cons.mp hp2 with rfl | hp3
    · exact hDC
    · exact off _ (by rw [(N0 p hp3).1]; exact fun q => (nomatch q))
  · rintro b (rfl | rfl | hb)
    · exact hC
    · exact hD
    · simp only [List.mem_cons, List.not_mem_nil, or_false] at hb
      rcases hb with rfl | rfl | rfl | rfl
      · exact gz
      · exact gTO
      · exact gi1
      · exact gi2
  · exact (hs₃.2 b fun q => hh (.inl q)).trans ((hs₂.2 b hb).trans e)
end
end Mine
end
section
open PySem PySem.W PySem.Calls PyProof.Rows PySem.Flt PySem.Builtin.Math
set_option Elab.async false
set_option maxRecDepth 100000
namespace Mine
/-- the floats that a list's items stand for -/
inductive RealsAre : List Value → List UInt64 → Prop
  | nil : RealsAre [] []
  | int (n : Int) (t : Tok) {vs bs} : ¬ Over n → RealsAre vs bs → RealsAre (.int n t :: vs) (Float64.ofInt n :: bs)
  | flt (b : UInt64) (t : Tok) {vs bs} : RealsAre vs bs → RealsAre (.float b t :: vs) (b :: bs)
theorem RealsAre.length : ∀ {vs bs}, RealsAre vs bs → vs.length = bs.length
  | _, _, .nil => rfl
  | _, _, .int _ _ _ h => congrArg (· + 1) h.length
  | _, _, .flt _ _ h => congrArg (· + 1) h.length
theorem RealsAre.floats : ∀ {vs bs}, FloatsAre vs bs → RealsAre vs bs
  | _, _, .nil => .nil
  | _, _, .cons b t h => .flt b t (RealsAre.floats h)
theorem RealsAre.ints : ∀ {vs ns}, IntsAre vs ns → (∀ n ∈ ns, ¬ Over n) → RealsAre vs (ns.map Float64.ofInt)
  | _, _, .nil, _ => .nil
  | _, _, .cons n t h, hn => .int n t (hn n (.head _)) (RealsAre.ints h fun m hm => hn m (.tail _ hm))
def bitsOf (ps : List UInt64) : List Value := ps.map fun x => rawInt x.toNat
inductive FsRun : List UInt64 → List UInt64 → UInt64 → Prop
  | nil {ps} : FsRun ps [] (Float64.fsumEnd ps)
  | cons {ps x fs r} : Float64.isFinite (Float64.fsumAdd ps x).2 = true →
      (if Float64.isZero (Float64.fsumAdd ps x).2 then (Float64.fsumAdd ps x).1 else (Float64.fsumAdd ps x).1 ++ [(Float64.fsumAdd ps x).2]).length ≤ 100 →
      FsRun (if Float64.isZero (Float64.fsumAdd ps x).2 then (Float64.fsumAdd ps x).1 else (Float64.fsumAdd ps x).1 ++ [(Float64.fsumAdd ps x).2]) fs r → FsRun ps (x :: fs) r
theorem kind_fsum : builtinKind "math.fsum" = none := by decide +kernel
theorem plain_fsum : plainId "math.fsum" = true := by decide +kernel
theorem entry_fsum : entryFor table "math.fsum" = some Builtin.«math.fsum» := entryFor_of_fast (by kernel_rfl)
theorem args_fsum (a : Value) : argsOk "math.fsum" ⟨[a], []⟩ := by unfold argsOk; kernel_rfl
theorem plain_fsumL : plainId "math.fsum.loop" = true := by decide +kernel
theorem entry_fsumL : entryFor table "math.fsum.loop" = some Builtin.«math.fsum.loop» := entryFor_of_fast (by kernel_rfl)
section
variable {prog : Program} {w : World} {A : Around} {E : Value → Shared → Prop} {R : Result → Shared → Prop} {s : Shared}
theorem realArg_float {x : UInt64} {t : Tok} {Q : UInt64 → Shared → Prop} (h : Q x s) : wpAny (model prog w) A (realArg (.float x t)) Q E s := by
  unfold realArg
  exact wpAny_bind (wpAny_pure (wpAny_pure h))
theorem realArg_int' {n : Int} {t : Tok} {Q : UInt64 → Shared → Prop} (hn : ¬ Over n) (h : Q (Float64.ofInt n) { s with toks := s.toks + 1 }) (hA : A.handled = none) : wpAny (model prog w) A (realArg (.int n t)) Q E s :=
  realArg_int hA (fun c => absurd c hn) fun _ => h
theorem newTuple_ {vs : List Value} {Q : Value → Shared → Prop} (hz : vs.length ≤ sizeLine) (h : Q (.ref s.heap.objs.size) { s with heap := s.heap.push { cls := .type "tuple", data := .seq vs.toArray } }) :
    wpAny (model prog w) A (newTuple vs) Q E s := wpAny_newObj_type h (by show vs.toArray.size ≤ sizeLine; rw [List.size_toArray]; exact hz)
theorem bits_back (ps : List UInt64) : ((bitsOf ps).toArray.toList.map fun | .int i _ => i.toNat.toUInt64 | _ => 0) = ps := by
  induction ps with
  | nil => rfl
  | cons x r ih =>
    simp only [bitsOf, List.map_cons] at ih ⊢
    rw [ih]
    simp [rawInt]
def Kp (s s' : Shared) (I : Addr) : Prop := ∃ h' tk, s' = { s with heap := h', toks := tk } ∧ ∀ b o, b ≠ I → s.heap.get? b = some o → h'.get? b = some o

theorem fsum_loop {its : Array Value} {ax I sp : Addr} {n₂ : Nat} (hne : ax ≠ I) (hspI : sp ≠ I) :
    ∀ (k i : Nat) (s : Shared) (ps fs : List UInt64) (r : UInt64) (pp : Addr) (n₁ : Nat) (A : Around) (_ : A.handled = none), its.size - i = k → i ≤ its.size → s.heap.IsListIter I ax i → s.heap.IsList ax its →
      s.heap.get? pp = some { cls := .type "tuple", data := .seq (bitsOf ps).toArray n₁ } → pp ≠ I → s.heap.get? sp = some { cls := .type "tuple", data := .seq (bitsOf [Float64.zero false, Float64.zero false]).toArray n₂ } →
      RealsAre (its.toList.drop i) fs → FsRun ps fs r → (∀ s' t, Kp s s' I → R (.ok (.ret (.float r t))) s') →
      codeAny (model prog w) A (.builtin "math.fsum.loop" ⟨[.ref I, .ref pp, .ref sp], []⟩) R s := by
  intro k
  induction k with
  | zero =>
    intro i s ps fs r pp n₁ A hA hk hi hit hl hpp hppI hsp hr hrun hR
    obtain rfl : i = its.size := by omega
    have hnil : its.toList.drop its.size = [] := List.drop_eq_nil_of_le (by simp)
    rw [hnil] at hr
    cases hr
    cases hrun
    refine codeAny_builtin entry_fsumL ?_
    rw [Around.under_plainId plain_fsumL _]
    show wpAny _ A.in1 ((do return ((← seqItems? (.ref pp)).getD #[]).toList.map fun | .int i _ => i.toNat.toUInt64 | _ => 0) >>= _) _ _ s
    refine wpAny_bind (wpAny_bind (wpAny_seqItems hpp rfl (wpAny_pure ?_)))
    show wpAny _ A.in1 ((do return ((← seqItems? (.ref sp)).getD #[]).toList.map fun | .int i _ => i.toNat.toUInt64 | _ => 0) >>= _) _ _ s
    refine wpAny_bind (wpAny_bind (wpAny_seqItems hsp rfl (wpAny_pure ?_)))
    rw [Option.getD_some, Option.getD_some, bits_back, bits_back]
    dsimp only
    refine wpAny_bind (wpAny_pyNext_list_end (A := A.in1) hA hit hl (by simp) fun h' hk' => ?_)
    dsimp only
    rw [if_neg (by decide +kernel)]
    show wpAny _ A.in1 (mkFloat _ >>= _) _ _ _
    exact wpAny_bind (wp_mkFloat (wpAny_pure (hR _ _ ⟨h', _, rfl, fun b o hb e => hk' b o hb e⟩)))
  | succ k ih =>
    intro i s ps fs r pp n₁ A hA hk hi hit hl hpp hppI hsp hr hrun hR
    have hlt : i < its.size := by omega
    have hx : its[i]? = some its[i] := by simp [hlt]
    have hdrop : its.toList.drop i = its[i] :: its.toList.drop (i + 1) := by
      rw [List.drop_eq_getElem_cons (by simpa using hlt)]; simp
    rw [hdrop] at hr
    generalize its[i] = v at hx hr
    refine codeAny_builtin entry_fsumL ?_
    rw [Around.under_plainId plain_fsumL _]
    show wpAny _ A.in1 ((do return ((← seqItems? (.ref pp)).getD #[]).toList.map fun | .int i _ => i.toNat.toUInt64 | _ => 0) >>= _) _ _ s
    refine wpAny_bind (wpAny_bind (wpAny_seqItems hpp rfl (wpAny_pure ?_)))
    show wpAny _ A.in1 ((do return ((← seqItems? (.ref sp)).getD #[]).toList.map fun | .int i _ => i.toNat.toUInt64 | _ => 0) >>= _) _ _ s
    refine wpAny_bind (wpAny_bind (wpAny_seqItems hsp rfl (wpAny_pure ?_)))
    rw [Option.getD_some, Option.getD_some, bits_back, bits_back]
    dsimp only
    refine wpAny_bind (wpAny_pyNext_list_item hit hl hx fun h' hit' hs' => ?_)
    dsimp only
    have next : ∀ (x : UInt64) (fs' : List UInt64) (tk : Nat), RealsAre (its.toList.drop (i + 1)) fs' → FsRun ps (x :: fs') r →
        wpAny (model prog w) A.in1 (do
          let (low, top) := Float64.fsumAdd ps x
          if Float64.isFinite top then
            return ← again (.builtin "math.fsum.loop" ⟨[.ref I, ← newTuple ((if Float64.isZero top then low else low ++ [top]).map fun x => rawInt x.toNat), .ref sp], []⟩)
          if Float64.isFinite x then PySem.rule "math.fsum.overflow"; raiseError "OverflowError" "intermediate overflow in fsum"
          PySem.rule "math.fsum.special"
          let infs := if Float64.isInf x then Float64.add (Float64.zero false) x else (Float64.zero false)
          again (.builtin "math.fsum.loop" ⟨[.ref I, ← newTuple (([] : List UInt64).map fun x => rawInt x.toNat), ← newTuple ([Float64.add (Float64.zero false) x, infs].map fun x => rawInt x.toNat)], []⟩))
        (fun fin s' => match fin with | .done f => R (.ok f) s' | .again c' => c'.quiet = true ∧ codeAny (model prog w) A c' R s') (fun e s' => R (.error e) s') { s with heap := h', toks := tk } := by
      intro x fs' tk hr' hrun'
      cases hrun' with
      | cons hf hlen hrun' =>
        dsimp only
        rw [if_pos hf]
        refine wpAny_bind (newTuple_ (by rw [List.length_map]; exact Nat.le_trans hlen (by decide)) (wpAny_bind (wpAny_pure ?_)))
        dsimp only
        refine wpAny_pure ⟨plainId_quiet plain_fsumL _, ?_⟩
        have up : ∀ b o, b ≠ I → s.heap.get? b = some o → h'.get? b = some o := fun b o hb e => hs'.extBut b o hb e
        have push : ∀ b o, h'.get? b = some o → (h'.push { cls := .type "tuple", data := .seq (bitsOf (if Float64.isZero (Float64.fsumAdd ps x).2 then (Float64.fsumAdd ps x).1 else (Float64.fsumAdd ps x).1 ++ [(Float64.fsumAdd ps x).2])).toArray }).get? b = some o := fun b o e => Heap.get?_push_of_some _ e
        refine ih (i + 1) _ _ _ r _ 0 A hA (by omega) hlt (Heap.IsListIter.at hit' fun o e => push _ o e) ((hl.at fun o e => up _ o hne e).at fun o e => push _ o e) (Heap.get?_push_size _ rfl) ?_ (push _ _ (up _ _ hspI hsp)) hr' hrun' ?_
        · obtain ⟨_, hI, _⟩ := hit'
          exact Nat.ne_of_gt (Heap.lt_size hI)
        · rintro s' t ⟨h2, tk2, rfl, hk2⟩
          exact hR _ _ ⟨h2, tk2, rfl, fun b o hb e => hk2 b o hb (push b o (up b o hb e))⟩
    cases hr with
    | flt b t hr =>
      refine wpAny_bind (wpAny_holding (realArg_float ?_))
      exact next b _ _ hr hrun
    | int n t hn hr =>
      refine wpAny_bind (wpAny_holding (realArg_int' hn ?_ hA))
      exact next _ _ _ hr hrun

theorem call_fsum {its : Array Value} {l : Addr} {fs : List UInt64} {r : UInt64} {Q : Value → Shared → Prop} (hA : A.handled = none) (hl : s.heap.IsList l its) (hr : RealsAre its.toList fs) (hrun : FsRun [] fs r)
    (h : ∀ h' tk t, (∀ b o, s.heap.get? b = some o → h'.get? b = some o) → Q (.float r t) { s with heap := h', toks := tk }) :
    wpAny (model prog w) A (call (.builtin "math.fsum") [.ref l]) Q E s := by
  refine call_function_tree kind_fsum plain_fsum entry_fsum (args_fsum _) ?_
  unfold Builtin.«math.fsum»
  refine wpAny_bind (m := mathOne "fsum" _) (wpAny_pure ?_)
  refine wpAny_bind (wpAny_pyIter_list hl ?_)
  show wpAny _ A.in1 (newTuple (bitsOf []) >>= _) _ _ _
  refine wpAny_bind (newTuple_ (by decide) ?_)
  show wpAny _ A.in1 (newTuple (bitsOf [Float64.zero false, Float64.zero false]) >>= _) _ _ _
  refine wpAny_bind (newTuple_ (by decide) ?_)
  dsimp only
  refine wpAny_pure ⟨plainId_quiet plain_fsumL _, ?_⟩
  have hlt : l < s.heap.objs.size := by obtain ⟨_, e, _⟩ := hl; exact Heap.lt_size e
  generalize h1 : s.heap.push { cls := .type "list_iterator", data := .fields #[.ref l, .int 0 0] } = H1
  generalize h2 : H1.push { cls := .type "tuple", data := .seq (bitsOf []).toArray } = H2
  have g1 : H1.get? s.heap.objs.size = some { cls := .type "list_iterator", data := .fields #[.ref l, .int 0 0] } := by rw [← h1]; exact Heap.get?_push_size _ rfl
  have g2 : H2.get? H1.objs.size = some { cls := .type "tuple", data := .seq (bitsOf []).toArray } := by rw [← h2]; exact Heap.get?_push_size _ rfl
  have up1 : ∀ b o, s.heap.get? b = some o → H1.get? b = some o := fun b o e => by rw [← h1]; exact Heap.get?_push_of_some _ e
  have up2 : ∀ b o, H1.get? b = some o → H2.get? b = some o := fun b o e => by rw [← h2]; exact Heap.get?_push_of_some _ e
  have up3 : ∀ b o, H2.get? b = some o → (H2.push { cls := .type "tuple", data := .seq (bitsOf [Float64.zero false, Float64.zero false]).toArray }).get? b = some o := fun b o e => Heap.get?_push_of_some _ e
  refine fsum_loop (n₂ := 0) (Nat.ne_of_lt hlt) (Nat.ne_of_gt (Heap.lt_size (up2 _ _ g1))) its.size 0 _ [] fs r _ 0 A hA rfl (Nat.zero_le _) ⟨_, up3 _ _ (up2 _ _ g1), rfl, rfl⟩ (hl.at fun o e => up3 _ _ (up2 _ _ (up1 _ _ e))) (up3 _ _ g2)
    (Nat.ne_of_gt (Heap.lt_size g1)) (Heap.get?_push_size _ rfl) (by simpa using hr) hrun ?_
  rintro s' t ⟨h', tk, rfl, hk⟩
  exact h h' tk t fun b o e => hk b o (Nat.ne_of_lt (Heap.lt_size e)) (up3 _ _ (up2 _ _ (up1 _ _ e)))
end
end Mine
end
section
open PySem PySem.W PySem.Calls PyProof.Rows PySem.Flt PySem.Builtin.Math
set_option Elab.async false
set_option maxRecDepth 100000
namespace Mine
abbrev Tri := UInt64 × UInt64 × UInt64
inductive SpRun : Tri → List UInt64 → List UInt64 → Tri → Prop
  | nil {t} : SpRun t [] [] t
  | cons {t x y xs ys r} : Float64.isFinite (tlFma x y t).1 = true → SpRun (tlFma x y t) xs ys r → SpRun t (x :: xs) (y :: ys) r
theorem kind_sp : builtinKind "math.sumprod" = none := by decide +kernel
theorem plain_sp : plainId "math.sumprod" = true := by decide +kernel
theorem entry_sp : entryFor table "math.sumprod" = some Builtin.«math.sumprod» := entryFor_of_fast (by kernel_rfl)
theorem args_sp (a b : Value) : argsOk "math.sumprod" ⟨[a, b], []⟩ := by unfold argsOk; kernel_rfl
theorem plain_spL : plainId "math.sumprod.loop" = true := by decide +kernel
theorem entry_spL : entryFor table "math.sumprod.loop" = some Builtin.«math.sumprod.loop» := entryFor_of_fast (by kernel_rfl)
def triOf (t : Tri) : List Value := [rawInt t.1.toNat, rawInt t.2.1.toNat, rawInt t.2.2.toNat]
section
variable {prog : Program} {w : World} {A : Around} {E : Value → Shared → Prop} {R : Result → Shared → Prop} {s : Shared}
variable {I1 I2 : Addr} {fp1 fp2 wr1 wr2 : List Addr} {n : Nat} {its1 its2 : Array Value} {St1 St2 : Nat → Heap → Prop}
def Kp2 (s s' : Shared) (ws : List Addr) : Prop := ∃ h' tk, s' = { s with heap := h', toks := tk } ∧ ∀ b o, b ∉ ws → s.heap.get? b = some o → h'.get? b = some o
theorem sp_loop (hA : A.handled = none) (W1 : Walks prog w A.in1 I1 fp1 wr1 n (fun i v => its1[i]? = some v) St1) (W2 : Walks prog w A.in1 I2 fp2 wr2 n (fun i v => its2[i]? = some v) St2)
    (d12 : ∀ b ∈ fp1, b ∉ wr2) (d21 : ∀ b ∈ fp2, b ∉ wr1) (hn1 : its1.size = n) (hn2 : its2.size = n) (hl1 : ∀ i h, St1 i h → ∀ b ∈ fp1, h.get? b ≠ none) (hl2 : ∀ i h, St2 i h → ∀ b ∈ fp2, h.get? b ≠ none) {t0 : Tok} :
    ∀ (k i : Nat) (s : Shared) (t r : Tri) (xs ys : List UInt64) (pp : Addr) (np : Nat) (b fu : Bool), n - i = k → i ≤ n → (i = n → fu = true) → St1 i s.heap → St2 i s.heap →
      s.heap.get? pp = some { cls := .type "tuple", data := .seq (triOf t).toArray np } → pp ∉ wr1 → pp ∉ wr2 →
      FloatsAre (its1.toList.drop i) xs → FloatsAre (its2.toList.drop i) ys → SpRun t xs ys r →
      (∀ s' tk, Kp2 s s' (wr1 ++ wr2) → R (.ok (.ret (.float (Float64.add (Float64.ofInt 0) (tlToFloat r)) tk))) s') →
      codeAny (model prog w) A (.builtin "math.sumprod.loop" ⟨[.ref I1, .ref I2, .int 0 t0, .bool b, .int 0 0, .bool false, .bool true, .ref pp, .bool fu], []⟩) R s := by
  have hA1 : A.in1.handled = none := hA
  have uc : ∀ x : UInt64, ((x.toNat : Int)).toNat.toUInt64 = x := fun x => by simp
  intro k
  induction k with
  | zero =>
    intro i s t r xs ys pp np b fu hk hi hfu h1 h2 hpp hp1 hp2 hx hy hrun hR
    obtain rfl : i = n := by omega
    obtain rfl := hfu rfl
    have e1 : its1.toList.drop i = [] := List.drop_eq_nil_of_le (by simp [hn1])
    have e2 : its2.toList.drop i = [] := List.drop_eq_nil_of_le (by simp [hn2])
    rw [e1] at hx; rw [e2] at hy
    cases hx; cases hy; cases hrun
    refine codeAny_builtin entry_spL ?_
    rw [Around.under_plainId plain_spL _]
    unfold Builtin.«math.sumprod.loop»
    dsimp only
    refine wpAny_bind (wpAny_seqItems hpp rfl ?_)
    simp only [Option.getD_some, triOf, rawInt, List.toList_toArray, uc]
    refine wpAny_bind (W1.done s _ _ h1 fun h' tk hk1 => ?_)
    refine wpAny_bind (wpAny_holding (W2.done _ _ _ (W2.frame _ _ _ h2 fun c hc o e => hk1 c o (d21 c hc) e) fun h'' tk' hk2 => ?_))
    cases b
    all_goals
      simp only [Option.isSome_none, bne_self_eq_false, Bool.false_eq_true, if_false, if_true, Option.toList_none, List.append_nil]
      repeat refine wpAny_bind (wpAny_rule ?_)
      refine wpAny_bind (wp_mkFloat ?_)
      refine wpAny_bind (wpAny_holding (add_if_fits (by decide +kernel) ?_))
      refine wpAny_pure (hR _ _ ⟨h'', _, rfl, fun b o hb e => hk2 b o (fun q => hb (List.mem_append_right _ q)) (hk1 b o (fun q => hb (List.mem_append_left _ q)) e)⟩)
  | succ k ih =>
    intro i s t r xs ys pp np b fu hk hi hfu h1 h2 hpp hp1 hp2 hx hy hrun hR
    have hlt : i < n := by omega
    have e1 : its1[i]? = some (its1[i]'(by omega)) := by simp [show i < its1.size by omega]
    have e2 : its2[i]? = some (its2[i]'(by omega)) := by simp [show i < its2.size by omega]
    have d1 : its1.toList.drop i = its1[i]'(by omega) :: its1.toList.drop (i + 1) := by
      rw [List.drop_eq_getElem_cons (by simp; omega)]; simp
    have d2 : its2.toList.drop i = its2[i]'(by omega) :: its2.toList.drop (i + 1) := by
      rw [List.drop_eq_getElem_cons (by simp; omega)]; simp
    rw [d1] at hx; rw [d2] at hy
    generalize its1[i]'(by omega) = v1 at e1 hx
    generalize its2[i]'(by omega) = v2 at e2 hy
    cases hx with
    | cons x t1 hx =>
    cases hy with
    | cons y t2 hy =>
    cases hrun with
    | cons hf hrun =>
    refine codeAny_builtin entry_spL ?_
    rw [Around.under_plainId plain_spL _]
    unfold Builtin.«math.sumprod.loop»
    dsimp only
    refine wpAny_bind (wpAny_seqItems hpp rfl ?_)
    simp only [Option.getD_some, triOf, rawInt, List.toList_toArray, uc]
    refine wpAny_bind (W1.item i s _ _ hlt h1 fun v h' tk hv hs1 hk1 => ?_)
    cases Option.some.inj (e1.symm.trans hv)
    refine wpAny_bind (wpAny_holding (W2.item i _ _ _ hlt (W2.frame _ _ _ h2 fun c hc o e => hk1 c o (d21 c hc) e) fun v h'' tk' hv2 hs2 hk2 => ?_))
    cases Option.some.inj (e2.symm.trans hv2)
    have up : ∀ b o, b ∉ wr1 ++ wr2 → s.heap.get? b = some o → h''.get? b = some o := fun b o hb e => hk2 b o (fun q => hb (List.mem_append_right _ q)) (hk1 b o (fun q => hb (List.mem_append_left _ q)) e)
    have hs1' : St1 (i + 1) h'' := W1.frame _ _ _ hs1 fun c hc o e => hk2 c o (d12 c hc) e
    have live' : ∀ c ∈ fp1 ++ fp2, h''.get? c ≠ none := by
      intro c hc
      rcases List.mem_append.mp hc with hc | hc
      · exact hl1 _ _ hs1' c hc
      · exact hl2 _ _ hs2 c hc
    have next : wpAny (model prog w) A.in1 (do
        let t' ← newTuple [rawInt (tlFma x y t).1.toNat, rawInt (tlFma x y t).2.1.toNat, rawInt (tlFma x y t).2.2.toNat]
        again (.builtin "math.sumprod.loop" ⟨[.ref I1, .ref I2, .int 0 t0, .bool false, rawInt 0, .bool false, .bool true, t', .bool true], []⟩))
        (fun fin s' => match fin with | .done f => R (.ok f) s' | .again c' => c'.quiet = true ∧ codeAny (model prog w) A c' R s') (fun e s' => R (.error e) s') { s with heap := h'', toks := tk' } := by
      refine wpAny_bind (newTuple_ (by show 3 ≤ sizeLine; decide) (wpAny_pure ⟨plainId_quiet plain_spL _, ?_⟩))
      have push : ∀ b o, h''.get? b = some o → (h''.push { cls := .type "tuple", data := .seq (triOf (tlFma x y t)).toArray }).get? b = some o := fun b o e => Heap.get?_push_of_some _ e
      have fresh : ∀ c ∈ fp1 ++ fp2, h''.objs.size ≠ c := fun c hc q => by
        have := live' c hc
        cases e : h''.get? c with
        | none => exact this e
        | some o => exact absurd (Heap.lt_size e) (by rw [q]; exact Nat.lt_irrefl _)
      refine ih (i + 1) _ _ r _ _ _ 0 false true (by omega) hlt (fun _ => rfl) (W1.frame _ _ _ hs1' fun c _ o e => push c o e) (W2.frame _ _ _ hs2 fun c _ o e => push c o e) (Heap.get?_push_size _ rfl)
        (fun q => fresh _ (List.mem_append_left _ (W1.sub _ q)) rfl) (fun q => fresh _ (List.mem_append_right _ (W2.sub _ q)) rfl) hx hy hrun ?_
      · rintro s' tk2 ⟨h3, tk3, rfl, hk3⟩
        exact hR _ _ ⟨h3, tk3, rfl, fun c o hb e => hk3 c o hb (push c o (up c o hb e))⟩
    have hf' : Float64.isFinite (tlFma x y (t.1, t.2.1, t.2.2)).1 = true := hf
    cases b
    all_goals
      simp only [Option.isSome_some, bne_self_eq_false, Bool.false_eq_true, if_false, if_true, Option.toList_some, Bool.or_self, Bool.or_true, hf']
      repeat refine wpAny_bind (wpAny_rule ?_)
      first
        | exact next
        | exact wpAny_bind (wpAny_mono next (fun _ _ x => wpAny_pure x) (fun _ _ x => x))

/-- an iterable of floats: a list or a tuple -/
def SeqAt (h : Heap) (a : Addr) (its : Array Value) : Prop := h.IsList a its ∨ IsTup h a its
theorem SeqAt.lt {h : Heap} {a : Addr} {its : Array Value} (x : SeqAt h a its) : a < h.objs.size := by
  rcases x with ⟨_, e, _⟩ | ⟨_, e, _⟩ <;> exact Heap.lt_size e
theorem SeqAt.keep {h h' : Heap} {a : Addr} {its : Array Value} (x : SeqAt h a its) (k : ∀ o, h.get? a = some o → h'.get? a = some o) : SeqAt h' a its := by
  rcases x with x | ⟨o, e, r⟩
  · exact .inl (x.at k)
  · exact .inr ⟨o, k o e, r⟩
/-- its iterator, as pyIter makes it -/
theorem iterOf {a : Addr} {its : Array Value} {Q : Value → Shared → Prop} (x : SeqAt s.heap a its)
    (h : ∀ (I : Addr) (h' : Heap) (St : Nat → Heap → Prop), I = s.heap.objs.size → (∀ b o, s.heap.get? b = some o → h'.get? b = some o) →
      (∀ A' : Around, A'.handled = none → Walks prog w A' I [I, a] [I] its.size (fun i v => its[i]? = some v) St) → (∀ i h, St i h → ∀ b ∈ [I, a], h.get? b ≠ none) → St 0 h' → Q (.ref I) { s with heap := h' }) :
    wpAny (model prog w) A (pyIter (.ref a)) Q E s := by
  have hlt := x.lt
  rcases x with x | x
  · refine wpAny_pyIter_list x (h _ _ _ rfl (fun b o e => Heap.get?_push_of_some _ e) (fun A' hA => Walks.list hA _ a (Nat.ne_of_lt hlt) its) ?_ ⟨⟨_, Heap.get?_push_size _ rfl, rfl, rfl⟩, x.push _⟩)
    rintro i h ⟨⟨_, e1, _⟩, ⟨_, e2, _⟩⟩ b hb
    simp only [List.mem_cons, List.not_mem_nil, or_false] at hb
    rcases hb with rfl | rfl
    · rw [e1]; exact fun q => (nomatch q)
    · rw [e2]; exact fun q => (nomatch q)
  · refine wpAny_pyIter_tuple x (h _ _ _ rfl (fun b o e => Heap.get?_push_of_some _ e) (fun A' hA => Walks.tuple hA _ a (Nat.ne_of_lt hlt) its) ?_ ⟨⟨_, Heap.get?_push_size _ rfl, rfl, rfl⟩, Heap.IsTuple.at x fun o e => Heap.get?_push_of_some _ e⟩)
    rintro i h ⟨⟨_, e1, _⟩, ⟨_, e2, _⟩⟩ b hb
    simp only [List.mem_cons, List.not_mem_nil, or_false] at hb
    rcases hb with rfl | rfl
    · rw [e1]; exact fun q => (nomatch q)
    · rw [e2]; exact fun q => (nomatch q)
theorem SpRun.len {t r : Tri} {xs ys : List UInt64} (h : SpRun t xs ys r) : xs.length = ys.length := by
  induction h with
  | nil => rfl
  | cons _ _ ih => simp [ih]
theorem call_sumprod {a b : Addr} {its1 its2 : Array Value} {xs ys : List UInt64} {r : Tri} {Q : Value → Shared → Prop} (hA : A.handled = none) (h1 : SeqAt s.heap a its1) (h2 : SeqAt s.heap b its2)
    (hx : FloatsAre its1.toList xs) (hy : FloatsAre its2.toList ys) (hn : xs ≠ []) (hrun : SpRun (Float64.zero false, Float64.zero false, Float64.zero false) xs ys r)
    (h : ∀ h' tk t, (∀ b o, s.heap.get? b = some o → h'.get? b = some o) → Q (.float (Float64.add (Float64.ofInt 0) (tlToFloat r)) t) { s with heap := h', toks := tk }) :
    wpAny (model prog w) A (call (.builtin "math.sumprod") [.ref a, .ref b]) Q E s := by
  have hlen : xs.length = ys.length := hrun.len
  have n1 : its1.size = xs.length := by rw [← hx.length]; simp
  have n2 : its2.size = its1.size := by rw [n1, hlen, ← hy.length]; simp
  have hpos : 0 < xs.length := List.length_pos_iff.mpr hn
  refine call_function_tree kind_sp plain_sp entry_sp (args_sp _ _) ?_
  unfold Builtin.«math.sumprod»
  refine wpAny_bind (m := mathSome "sumprod" 2 2 _) (wpAny_of_eq (show mathSome "sumprod" 2 2 ⟨[.ref a, .ref b], []⟩ = pure [.ref a, .ref b] from by rfl) ?_)
  dsimp only
  refine wpAny_bind (iterOf h1 fun I1 g1 St1 e1 k1 W1 l1 s1 => ?_)
  refine wpAny_bind (wpAny_holding (iterOf (h2.keep fun o e => k1 _ o e) fun I2 g2 St2 e2 k2 W2 l2 s2 => ?_))
  refine wpAny_bind (wpAny_mkInt ?_)
  refine wpAny_bind (newTuple_ (by decide) ?_)
  refine wpAny_pure ⟨plainId_quiet plain_spL _, ?_⟩
  have hI1 : g1.get? I1 ≠ none := l1 _ _ s1 I1 (by simp)
  have ltI1 : I1 < g1.objs.size := by
    cases e : g1.get? I1 with
    | none => exact absurd e hI1
    | some o => exact Heap.lt_size e
  have la : a < s.heap.objs.size := h1.lt
  have lb : b < s.heap.objs.size := h2.lt
  have d : I2 ≠ I1 := by rw [e2]; exact Nat.ne_of_gt ltI1
  have d1 : a ≠ I2 := by
    rw [e2]; refine Nat.ne_of_lt (Nat.lt_of_lt_of_le la ?_)
    exact Nat.le_of_lt (by rw [e1] at ltI1; exact ltI1)
  have d2 : b ≠ I1 := by rw [e1]; exact Nat.ne_of_lt lb
  have s1' : St1 0 g2 := (W1 A.in1 hA).frame _ _ _ s1 fun c _ o e => k2 c o e
  have up : ∀ c o, g2.get? c = some o → (g2.push { cls := .type "tuple", data := .seq (triOf (Float64.zero false, Float64.zero false, Float64.zero false)).toArray }).get? c = some o := fun c o e => Heap.get?_push_of_some _ e
  have fresh : ∀ c, g2.get? c ≠ none → g2.objs.size ≠ c := fun c hc q => by
    cases e : g2.get? c with
    | none => exact hc e
    | some o => exact absurd (Heap.lt_size e) (by rw [q]; exact Nat.lt_irrefl _)
  refine sp_loop (n := its1.size) hA (W1 A.in1 hA) (n2 ▸ W2 A.in1 hA) ?_ ?_ rfl n2 l1 l2 its1.size 0 _ (Float64.zero false, Float64.zero false, Float64.zero false) r xs ys _ 0 true false rfl (Nat.zero_le _) (fun q => by omega)
    ((W1 A.in1 hA).frame _ _ _ s1' fun c _ o e => up c o e) ((W2 A.in1 hA).frame _ _ _ s2 fun c _ o e => up c o e) (Heap.get?_push_size _ rfl) ?_ ?_ (by simpa using hx) (by simpa using hy) hrun ?_
  · intro c hc q
    simp only [List.mem_cons, List.not_mem_nil, or_false] at hc q
    rcases hc with rfl | rfl
    · exact d q.symm
    · exact d1 q
  · intro c hc q
    simp only [List.mem_cons, List.not_mem_nil, or_false] at hc q
    rcases hc with rfl | rfl
    · exact d q
    · exact d2 q
  · intro q; exact fresh I1 (l1 _ _ s1' I1 (by simp)) (by simpa using q)
  · intro q; exact fresh I2 (l2 _ _ s2 I2 (by simp)) (by simpa using q)
  · rintro s' tk ⟨h', tk', rfl, hk⟩
    refine h h' tk' tk fun c o e => hk c o ?_ (up c o (k2 c o (k1 c o e)))
    intro q
    simp only [List.cons_append, List.nil_append, List.mem_cons, List.not_mem_nil, or_false] at q
    rcases q with rfl | rfl
    · exact absurd (Heap.lt_size e) (by rw [e1]; exact Nat.lt_irrefl _)
    · exact absurd (Heap.lt_size (k1 _ _ e)) (by rw [e2]; exact Nat.lt_irrefl _)
end
end Mine
end
section
open PySem PySem.W PySem.Calls PyProof.Rows PySem.Flt PySem.Builtin.Math
set_option Elab.async false
set_option maxRecDepth 100000
namespace Mine
section
variable {prog : Program} {w : World} {A : Around} {E : Value → Shared → Prop} {s : Shared} {h₀ : Heap} {L : Addr} {m : Str → Option Value} {news : List (Addr × Obj)}
theorem fsum_K {its : Array Value} {l : Addr} {fs : List UInt64} {r : UInt64} {Q : Value → Shared → Prop} (F : Fr h₀ L s.heap m) (N : News h₀ L s.heap news) (hA : A.handled = none) (hl : s.heap.IsList l its) (hr : RealsAre its.toList fs) (hrun : FsRun [] fs r)
    (h : ∀ h' tk t, Fr h₀ L h' m → News h₀ L h' news → Q (.float r t) { s with heap := h', toks := tk }) : wpAny (model prog w) A (call (.builtin "math.fsum") [.ref l]) Q E s :=
  call_fsum hA hl hr hrun fun h' tk t k => h h' tk t (F.keeps k) (N.grown k)
theorem sumprod_K {a b : Addr} {its1 its2 : Array Value} {xs ys : List UInt64} {r : Tri} {Q : Value → Shared → Prop} (F : Fr h₀ L s.heap m) (N : News h₀ L s.heap news) (hA : A.handled = none) (h1 : SeqAt s.heap a its1) (h2 : SeqAt s.heap b its2)
    (hx : FloatsAre its1.toList xs) (hy : FloatsAre its2.toList ys) (hn : xs ≠ []) (hrun : SpRun (Float64.zero false, Float64.zero false, Float64.zero false) xs ys r)
    (h : ∀ h' tk t, Fr h₀ L h' m → News h₀ L h' news → Q (.float (Float64.add (Float64.ofInt 0) (tlToFloat r)) t) { s with heap := h', toks := tk }) :
    wpAny (model prog w) A (call (.builtin "math.sumprod") [.ref a, .ref b]) Q E s :=
  call_sumprod hA h1 h2 hx hy hn hrun fun h' tk t k => h h' tk t (F.keeps k) (N.grown k)
theorem len_K {its : Array Value} {l : Addr} {Q : Value → Shared → Prop} {n : Nat} (hl : s.heap.IsList l its) (hn : its.size = n) (hb : n ≤ 2 ^ 62) (h : Q (.int n (s.toks + 1)) { s with toks := s.toks + 1 + 1 }) :
    wpAny (model prog w) A (call (.builtin "len") [.ref l]) Q E s := by
  subst hn
  exact len_list hl (by have : (its.size : Int) ≤ ((2 ^ 62 : Nat) : Int) := by exact_mod_cast hb
                        have e : ((2 ^ 62 : Nat) : Int) < 2 ^ 63 := by decide
                        omega) h
theorem FloatsAre.of_paired {Fv : Value → Value → Prop} (g : List UInt64) : ∀ {its ys : List Value}, Paired Fv its ys → (∀ (i : Nat) v y, its[i]? = some v → Fv v y → ∃ f t, g[i]? = some f ∧ y = .float f t) → its.length = g.length → FloatsAre ys g := by
  induction g with
  | nil =>
    intro its ys h _ hl
    cases h with
    | nil => exact .nil
    | cons _ _ => cases hl
  | cons f g ih =>
    intro its ys h hf hl
    cases h with
    | nil => cases hl
    | @cons v y l₁ l₂ h0 ht =>
      obtain ⟨f', t, e, rfl⟩ := hf 0 v y rfl h0
      cases Option.some.inj e
      exact .cons f t (ih ht (fun i v y hv hF => by obtain ⟨f', t, e, r⟩ := hf (i + 1) v y (by simpa using hv) hF; exact ⟨f', t, by simpa using e, r⟩) (by simpa using hl))
/-- the float that a number stands for -/
inductive RealIs : Value → UInt64 → Prop
  | int (n : Int) (t : Tok) : ¬ Over n → RealIs (.int n t) (Float64.ofInt n)
  | flt (b : UInt64) (t : Tok) : RealIs (.float b t) b
theorem RealsAre.at : ∀ {vs : List Value} {bs : List UInt64}, RealsAre vs bs → ∀ (i : Nat) v, vs[i]? = some v → ∃ b, bs[i]? = some b ∧ RealIs v b
  | _, _, .nil, i, v, h => by simp at h
  | _, _, .int n t ho r, 0, v, h => by cases Option.some.inj h; exact ⟨_, rfl, .int n t ho⟩
  | _, _, .flt b t r, 0, v, h => by cases Option.some.inj h; exact ⟨_, rfl, .flt b t⟩
  | _, _, .int n t ho r, i + 1, v, h => r.at i v (by simpa using h)
  | _, _, .flt b t r, i + 1, v, h => r.at i v (by simpa using h)
theorem RealIs.inj {v : Value} {a b : UInt64} (x : RealIs v a) (y : RealIs v b) : a = b := by cases x <;> cases y <;> rfl
theorem el_sub {env : Env} {scope : Scope} {cl : List (Str × Addr)} {x b : Str} {px pb pp : Pos} {c : Addr} {oc : Obj} {bar : UInt64} {tb : Tok} {s₁ : Shared} {v : Value} {f : UInt64} (hkind : scope.kind = .function)
    (hx : ∀ C, (compEnvC scope cl C env).kindOf x = some .local) (hb : ∀ C, (compEnvC scope cl C env).kindOf b = some .cell) (hc : cl.lookup b = some c) (ho : s₁.heap.get? c = some oc) (hd : oc.data = .cell (some (.float bar tb))) (hv : RealIs v f)
    (dx : (x == ("__debug__" : Str)) = false) (db : (b == ("__debug__" : Str)) = false) :
    ElOk prog w A env (.BinOp (.Name x px) .Sub (.Name b pb) pp) scope cl x s₁ v (fun y => ∃ t, y = .float (Float64.sub f bar) t) := by
  intro C h tk m' hn hxm hk
  refine wpAny_BinOp (wpAny_Name (wpAny_loadName_local hkind (hx C) hn hxm ?_) dx)
  refine wpAny_Name (wpAny_loadName_cell hkind (hb C) hc ⟨oc, hk c oc ho, hd⟩ ?_) db
  cases hv with
  | int n t hn => exact AutoFloatOps.sub_if_1 (fin_of_fits hn) ⟨⟨h, _, rfl, fun _ _ e => e⟩, _, rfl⟩
  | flt f t => exact sub_float ⟨⟨h, _, rfl, fun _ _ e => e⟩, _, rfl⟩
end
end Mine
end
section
open PySem PySem.W PySem.Calls PyProof.Rows
set_option Elab.async false
set_option maxRecDepth 100000
namespace Mine
theorem entry_unchain : entryFor table "proto.unchain" = some Builtin.«proto.unchain» := entryFor_of_fast (by kernel_rfl)
section
variable {prog : Program} {w : World} {A : Around} {E : Value → Shared → Prop} {s : Shared} {env : Env}
theorem raiseNew_held {α : Type} {h e : Addr} {oh oe : Obj} {vs ws : Array Value} {Q : α → Shared → Prop} (hA : A.handled = some (.ref h)) (hne : h ≠ e)
    (hh : s.heap.get? h = some oh) (hd : oh.data = .fields vs) (h2 : vs[2]? = some .none) (he : s.heap.get? e = some oe) (hde : oe.data = .fields ws) (hsz : 2 < ws.size)
    (hE : E (.ref e) { s with heap := s.heap.update e (Obj.mapFields (·.setIfInBounds 2 (.ref h))) }) : wpAny (model prog w) A (raiseNew (.ref e) : Sem α) Q E s := by
  unfold raiseNew
  refine wpAny_bind (wpAny_handled ?_)
  rw [hA]
  dsimp only
  rw [if_pos (by simpa using hne)]
  refine wpAny_bind (wpAny_holding (wpAny_runValue (codeAny_builtin entry_unchain ?_)))
  unfold Builtin.«proto.unchain»
  dsimp only
  refine wpAny_bind (wpAny_field hh hd h2 ?_)
  simp only [beq_self_eq_true, if_true]
  refine wpAny_bind (wpAny_pure ?_)
  refine wpAny_pure ?_
  dsimp only
  unfold updateField
  refine wpAny_bind (wpAny_bind (wpAny_load he ?_))
  rw [hde]
  dsimp only
  rw [if_pos hsz]
  refine wpAny_update he ?_
  exact wpAny_throw hE
end
section
variable {prog : Program} {w : World} {A : Around} {E : Value → Shared → Prop} {env : Env}
variable {nm q : Str} {C N : Addr} {bs bm : List Value} {hdct : Bool} {sn : List Str} {sub : List Value} {ab : Bool} {col : Option Bool} {dd : Option Addr} {k0 k1 k2 k3 k5 : Option Value} {newId : String}
theorem raiseStmt_held {s : Shared} {z : Addr} {x : Sem Value} {Q : Flow → Shared → Prop} (hbase : bm.contains (.type "BaseException") = true) (hh : A.handled = some (.ref z))
    (h : wpAny (model prog w) A x (fun v s₁ => ∃ e t, v = .ref e ∧ s₁.heap.get? C = some (excClassObj nm q C N bs bm hdct sn sub ab col dd k0 k1 k2 k3 k5 newId) ∧
      s₁.heap.get? e = some { cls := .ref C, data := .fields #[.ref t, .none, .none, .none, .bool false, .none] } ∧ z ≠ e ∧ (∃ oz vz, s₁.heap.get? z = some oz ∧ oz.data = .fields vz ∧ vz[2]? = some .none) ∧
      E (.ref e) { s₁ with heap := s₁.heap.update e (Obj.mapFields (·.setIfInBounds 2 (.ref z))) }) E s) :
    wpAny (model prog w) A (raiseStmt env (some x) none) Q E s := by
  have hcB : (Value.ref C :: bm).contains (.type "BaseException") = true := by rw [List.contains_cons, hbase, Bool.or_true]
  unfold raiseStmt
  refine wpAny_bind (wpAny_mono h (fun v s₁ h₁ => ?_) fun _ _ x => x)
  obtain ⟨e, t, rfl, hC, he, hz, ⟨oz, vz, z1, z2, z3⟩, hE⟩ := h₁
  obtain ⟨hp, g, d, tk, os⟩ := s₁
  repeat (first | with_reducible refine wpAny_loadPart_at he ?_ | with_reducible refine wpAny_loadPart_at hC ?_ | (with_reducible refine wpAny_isSubtype_exc hC ?_; rw [hcB]) | wp_step)
  exact raiseNew_held hh hz z1 z2 z3 he rfl (by simp) hE
end
section
variable {prog : Program} {w : World} {A : Around} {E : Value → Shared → Prop} {s : Shared} {env : Env}
variable {nm q : Str} {C N : Addr} {bs bm bmB : List Value} {hdct : Bool} {sn : List Str} {sub : List Value} {ab : Bool} {col : Option Bool} {dd : Option Addr} {k0 k1 k2 k3 k5 : Option Value} {B newId initId : String}
theorem Raise_call_held (F : ExcBaseFacts B newId initId bmB) {mN : Str → Option Value} {x : Str} {np cpos pos : Pos} {args : List Expr} {Q : Flow → Shared → Prop} {z : Addr}
    (hbase : bm.contains (.type "BaseException") = true) (hh : A.handled = some (.ref z)) (hplain : (backTo cpos (starEach args env)).any (·.1) = false) (hni : mN "__init__" = none)
    (h : wpAny (model prog w) A (eval (.Name x np) env) (fun f s₁ => f = .ref C ∧ wpAny (model prog w) A (evalArgs (.ref C) true (backTo cpos (starEach args env)) [])
      (fun a s₂ => a.kw = [] ∧ a.pos.length ≤ sizeLine ∧ s₂.heap.get? C = some (excClassObj nm q C N bs bm hdct sn sub ab col dd k0 k1 k2 k3 k5 newId) ∧ s₂.heap.Ns N mN ∧ OwnTail s₂.heap bmB bm ∧
        (∃ oz vz, s₂.heap.get? z = some oz ∧ oz.data = .fields vz ∧ vz[2]? = some .none) ∧
        ∀ h' e, Heap.MadeExcOf s₂.heap h' e (.ref C) a.pos → E (.ref e) { s₂ with heap := h'.update e (Obj.mapFields (·.setIfInBounds 2 (.ref z))) }) E s₁) E s) :
    wpAny (model prog w) A (exec (.Raise (some (.Call (.Name x np) args [] cpos)) none pos) env) Q E s := by
  rw [arm_exec_Raise]
  first
    | refine wpAny_bind (wpAny_standAt (raiseStmt_held (C := C) (nm := nm) (q := q) (N := N) (bs := bs) (bm := bm) (hdct := hdct) (sn := sn) (sub := sub) (ab := ab) (col := col) (dd := dd) (k0 := k0) (k1 := k1) (k2 := k2) (k3 := k3) (k5 := k5) (newId := newId) hbase hh (wpAny_bind (wpAny_mono (wpAny_Call_ofName (wpAny_mono h (fun f s₁ h₁ => ?_) fun _ _ x => x)) (fun v s₃ h₃ => wpAny_bind (wpAny_standAt (wpAny_pure h₃))) fun _ _ x => x))))
    | (simp only [evalOpt, Option.map]; refine wpAny_bind (wpAny_standAt (raiseStmt_held (C := C) (nm := nm) (q := q) (N := N) (bs := bs) (bm := bm) (hdct := hdct) (sn := sn) (sub := sub) (ab := ab) (col := col) (dd := dd) (k0 := k0) (k1 := k1) (k2 := k2) (k3 := k3) (k5 := k5) (newId := newId) hbase hh (wpAny_bind (wpAny_mono (wpAny_Call_ofName (wpAny_mono h (fun f s₁ h₁ => ?_) fun _ _ x => x)) (fun v s₃ h₃ => wpAny_bind (wpAny_standAt (wpAny_pure h₃))) fun _ _ x => x)))))
    | (refine wpAny_bind (wpAny_standAt (raiseStmt_held (C := C) (nm := nm) (q := q) (N := N) (bs := bs) (bm := bm) (hdct := hdct) (sn := sn) (sub := sub) (ab := ab) (col := col) (dd := dd) (k0 := k0) (k1 := k1) (k2 := k2) (k3 := k3) (k5 := k5) (newId := newId) hbase hh ?_)); refine wpAny_bind (wpAny_mono (wpAny_Call_ofName (wpAny_mono h (fun f s₁ h₁ => ?_) fun _ _ x => x)) (fun v s₃ h₃ => wpAny_bind (wpAny_standAt (wpAny_pure h₃))) fun _ _ x => x))
  obtain ⟨rfl, h₁⟩ := h₁
  unfold callWith
  refine wpAny_bind (wpAny_holding (wpAny_mono h₁ (fun a s₂ h₂ => wpAny_bind (wpAny_standAt ?_)) fun _ _ x => x))
  obtain ⟨apos, akw⟩ := a
  obtain ⟨hkw, hlen, hC, hn, T, ⟨oz, vz, z1, z2, z3⟩, h₂⟩ := h₂
  obtain rfl : akw = [] := hkw
  obtain ⟨hp, g, d, tk, os⟩ := s₂
  simp only [hplain]
  refine wpAny_bind (wpAny_keeperOf_exc hC ?_)
  refine wpAny_bind (wpAny_call_exc_subT (hrest := hlen) F T hC hn hni fun h' e hm => wpAny_bind (wpAny_holding (wpAny_point (wpAny_pure ?_))))
  obtain ⟨t, ht, _, _⟩ := hm.there
  exact ⟨e, t, rfl, hm.keeps _ _ hC, ht, (fun y => by rw [← y] at hm; have hn := hm.new; rw [show hp.get? z = some oz from z1] at hn; cases hn), ⟨oz, vz, hm.keeps _ _ z1, z2, z3⟩, h₂ h' e hm⟩
end
section
def TracX (h base : Heap) (e : Addr) (cls a0 fl : Value) : Prop :=
  ∃ oe vs T oT ts, h.get? e = some oe ∧ (oe.cls = cls ∧ vs[0]? = some a0 ∧ vs[2]? = some .none) ∧ oe.data = .fields vs ∧ vs[1]? = some (.ref T) ∧ base.get? T = none ∧ T ≠ e ∧ h.get? T = some oT ∧ oT.data = .fields ts ∧ ts[3]? = some fl
theorem TracX.to {h base : Heap} {e : Addr} {cls a0 fl : Value} (x : TracX h base e cls a0 fl) : h.TracedAtW base e cls a0 fl := by
  obtain ⟨oe, vs, T, oT, ts, h1, ⟨h2, h3, _⟩, h4⟩ := x
  exact ⟨oe, vs, T, oT, ts, h1, ⟨h2, h3⟩, h4⟩
theorem TracX.there {h base : Heap} {e : Addr} {cls a0 fl : Value} (x : TracX h base e cls a0 fl) : ∃ ob vs, h.get? e = some ob ∧ ob.cls = cls ∧ ob.data = .fields vs ∧ vs[2]? = some .none := by
  obtain ⟨oe, vs, T, oT, ts, h1, ⟨h2, h3, h5⟩, h4, _⟩ := x
  exact ⟨oe, vs, h1, h2, h4, h5⟩
variable {prog : Program} {w : World} {A : Around} {E : Value → Shared → Prop} {s : Shared} {env : Env}
/-- noteFrame at an exception that is new -/
theorem noteFrame_firstX {base : Heap} {outer : List Env} {L e : Addr} {oe : Obj} {vs : Array Value} {a0 : Value} {Q : Unit → Shared → Prop}
    (hfr : A.frames = some (env :: outer)) (hl : s.heap.FunFrames base (env :: outer)) (hf : env.frame = some L)
    (he : s.heap.get? e = some oe) (hkb : base.StaysIn s.heap) (hen : base.get? e = none) (hd : oe.data = .fields vs) (h1 : vs[1]? = some .none) (h0 : vs[0]? = some a0) (h2 : vs[2]? = some .none)
    (h : ∀ h', base.StaysIn h' → h'.FunFrames base (env :: outer) → TracX h' base e oe.cls a0 (rawInt L) → s.heap.UpToSlots h' → Q () { s with heap := h' }) : wpAny (model prog w) A (noteFrame (.ref e) env) Q E s := by
  unfold noteFrame
  simp only [hf]
  refine wpAny_bind (wpAny_field he hd h1 ?_)
  rw [if_neg (by decide)]
  have hsz := (Array.getElem?_eq_some_iff.mp h1).1
  have hene : e ∉ (env :: outer).filterMap (·.frame) := fun hm => by
    obtain ⟨_, o, ho, hnf⟩ := hl.mem hm
    rw [he] at ho; injection ho with ho; subst ho; exact hnf vs hd
  refine wpAny_bind (wpAny_frameOf_fun hfr hl hf fun h₁ hs₁ => ?_)
  refine wpAny_bind (wpAny_entryPlaceOf fun pl hpl => ?_)
  unfold EntryCells.newEntry newFields
  refine wpAny_bind (wpAny_newObj_type ?_ (hpl.sizeOk5 _ _ _ _ _))
  have he₁ : h₁.get? e = some oe := (hs₁.2.1 e hene).trans he
  have kb₁ : base.StaysIn h₁ := fun b o hbo => (hs₁.2.1 b fun hm => by rw [(hl.mem hm).1] at hbo; cases hbo).trans (hkb b o hbo)
  have he₂ := Heap.get?_push_of_some (h := h₁) { cls := .type "traceback", dict := none, data := .fields ([Value.none, .ref L, .none, rawInt L, .none] ++ (if pl.isEmpty then List.replicate 6 Value.none else pl)).toArray } he₁
  have hTe : h₁.objs.size ≠ e := Nat.ne_of_gt (Heap.lt_size he₁)
  have hd₃ := Obj.data_mapFields hd (·.setIfInBounds 1 (Value.ref h₁.objs.size))
  have he₃ := Heap.get?_update_self (Obj.mapFields (·.setIfInBounds 1 (Value.ref h₁.objs.size))) he₂ (Obj.isFreed_of_fields hd₃)
  have hT₃ := (Heap.get?_update_other (h₁.push { cls := .type "traceback", dict := none, data := .fields ([Value.none, .ref L, .none, rawInt L, .none] ++ (if pl.isEmpty then List.replicate 6 Value.none else pl)).toArray })
    (Obj.mapFields (·.setIfInBounds 1 (Value.ref h₁.objs.size))) (Ne.symm hTe)).trans (Heap.get?_push_size h₁ rfl)
  have keep : ∀ b o, b ≠ e → h₁.get? b = some o →
      ((h₁.push { cls := .type "traceback", dict := none, data := .fields ([Value.none, .ref L, .none, rawInt L, .none] ++ (if pl.isEmpty then List.replicate 6 Value.none else pl)).toArray }).update e (Obj.mapFields (·.setIfInBounds 1 (Value.ref h₁.objs.size)))).get? b = some o :=
    fun b o hbe hb => by
      rw [Heap.get?_update_other _ _ (Ne.symm hbe)]
      exact Heap.get?_push_of_some _ hb
  have noRecord : ∀ b o, s.heap.get? b = some o → (∀ vs, o.data ≠ .fields vs) → b ≠ e := fun b o hb hnf q => by
    rw [q, he] at hb; injection hb with hb; subst hb; exact hnf vs hd
  refine wpAny_setField he₂ hd hsz (h _ ?_ ?_ ?_ ?_)
  · exact fun b o hbo => keep b o (fun q => by rw [q, hen] at hbo; cases hbo) (kb₁ b o hbo)
  · exact hl.of_keeps fun b o hb hnf => by
      obtain ⟨sl, hs⟩ := hs₁.2.2 b o hb
      exact ⟨_, keep b _ (noRecord b o hb hnf) hs, rfl⟩
  · refine ⟨_, _, h₁.objs.size, _, _, he₃, ⟨Obj.cls_mapFields _ _, by rw [Array.getElem?_setIfInBounds_ne (by decide)]; exact h0, by rw [Array.getElem?_setIfInBounds_ne (by decide)]; exact h2⟩, hd₃, by simp [hsz], ?_, hTe, hT₃, rfl, by first | (simp; done) | (rcases hpl with rfl | ⟨_, _, _, _, _, _, _, rfl⟩ <;> simp)⟩
    exact kb₁.fresh
  · intro b o hb hnf
    obtain ⟨sl, hs⟩ := hs₁.2.2 b o hb
    exact ⟨sl, keep b _ (noRecord b o hb hnf) hs⟩
theorem setFlight_noneX {base : Heap} {l : List Env} {e : Addr} {cls a0 fl : Value} {Q : Unit → Shared → Prop}
    (hkb : base.StaysIn s.heap) (hl : s.heap.FunFrames base l) (ht : TracX s.heap base e cls a0 fl)
    (h : ∀ h', base.StaysIn h' → h'.FunFrames base l → TracX h' base e cls a0 .none → s.heap.UpToSlots h' → Q () { s with heap := h' }) :
    wpAny (model prog w) A (setFlight (.ref e) none) Q E s := by
  obtain ⟨oe, vs, T, oT, ts, he, hcls, hd, h1, hnT, hTe, hT, hdT, h3⟩ := ht
  have hsz3 : 3 < ts.size := (Array.getElem?_eq_some_iff.mp h3).1
  have other : ∀ b, b ≠ T → (s.heap.update T (Obj.mapFields (·.setIfInBounds 3 ((none : Option Addr).elim Value.none fun f => rawInt f)))).get? b = s.heap.get? b :=
    fun b hb => Heap.get?_update_other _ _ (Ne.symm hb)
  have noRecord : ∀ b o, s.heap.get? b = some o → (∀ vs, o.data ≠ .fields vs) → b ≠ T := fun b o hb hnf q => by
    rw [q, hT] at hb; injection hb with hb; subst hb; exact hnf ts hdT
  unfold setFlight
  refine wpAny_bind (wpAny_field he hd h1 ?_)
  rw [if_pos (show (Value.ref T != Value.none) = true from by simp)]
  refine wpAny_setField hT hdT hsz3 (h _ (fun b o hbo => (other b fun q => by rw [q, hnT] at hbo; cases hbo).trans (hkb b o hbo))
    (hl.of_keeps fun b o hb hnf => ⟨o, (other b (noRecord b o hb hnf)).trans hb, rfl⟩) ?_ fun b o hb hnf => ⟨o.slots, (other b (noRecord b o hb hnf)).trans hb⟩)
  exact ⟨oe, vs, T, _, _, (other e (Ne.symm hTe)).trans he, hcls, hd, h1, hnT, hTe, Heap.get?_update_self _ hT (Obj.isFreed_of_fields (Obj.data_mapFields hdT _)), Obj.data_mapFields hdT _, by simp [hsz3]⟩
end
section
variable {prog : Program} {w : World} {A : Around} {s' : Shared} {env : Env}
theorem reraise {base g h : Heap} {outer : List Env} {L e : Addr} {m mg mb : Str → Option Value} {x y msg : Str} {np np2 pos cpos hpos kpos : Pos} {kk : Nat} {E0 : Value → Shared → Prop} {Q : Flow → Shared → Prop}
    {X B newId initId : String} {C : Addr} {bm : List Value}
    (K : Below A base outer g) (F : Fr g L h m) (hx : Heap.NewExc h s'.heap e X) (hf : env.frame = some L) (hk : env.scope.kind = .function) (hgl : env.globals = mainGlobals) (hbl : env.builtins = builtinsNs)
    (hg : base.Ns mainGlobals mg) (hb : base.Ns builtinsNs mb) (hmiss : mg x = none) (hv : mb x = some (.type X)) (hxk : env.kindOf x = some .globalImplicit) (hyk : env.kindOf y = some .globalImplicit)
    (hxd : (x == ("__debug__" : Str)) = false) (hyd : (y == ("__debug__" : Str)) = false)
    (hexc : isSubtype (.type X) (.type "BaseException") = pure true) (hnt : isSubtype (.type ((Manifest.find? X).elim "type" fun x => x.metatype)) (.type "tuple") = pure false) (hsub : isSubtype (.type X) (.type X) = pure true)
    (O : OwnCls y C bm newId mg base) (FB : ExcBaseFacts B newId initId bm)
    (hE : ∀ h' e' t tk tk', Heap.FlyingW (hideAll g (outer.filterMap (·.frame))) outer e' (.ref C) (.ref t) h' → h'.TupAt t [.str msg tk] → (hideAll g (outer.filterMap (·.frame))).get? t = none → g.UpToSlots h' → E0 (.ref e') { s' with heap := h', toks := tk' })
    (he : starEach [.Constant (.str msg) kk kpos] env = [(false, eval (.Constant (.str msg) kk kpos) env)] := by rfl) :
    wpAny (model prog w) (A.deeper env) (noteFrame (.ref e) env) (fun _ s₂ => wpAny (model prog w) (A.deeper env) (setFlight (.ref e) none) (fun _ s₃ =>
        wpAny (model prog w) (A.deeper env) (handleBy (.ref e) env [.ExceptHandler (some (.Name x np)) none [.Raise (some (.Call (.Name y np2) [.Constant (.str msg) kk kpos] [] cpos)) none pos] hpos]) Q
          (fun e s' => wpAny (model prog w) (A.deeper env) (leaving env e) (fun _ s'' => E0 e s'') (fun e' s'' => E0 e' s'') s') s₃)
          (fun e s' => wpAny (model prog w) (A.deeper env) (leaving env e) (fun _ s'' => E0 e s'') (fun e' s'' => E0 e' s'') s') s₂)
        (fun e s' => wpAny (model prog w) (A.deeper env) (leaving env e) (fun _ s'' => E0 e s'') (fun e' s'' => E0 e' s'') s') s' := by
  have K' := pushX K F hf hk
  have hfr := K'.stack
  have hin : ∀ env' ∈ (env :: outer), ∀ b, env'.frame = some b → b ∈ (env :: outer).filterMap (·.frame) := fun env he b hb => List.mem_filterMap.mpr ⟨env, he, hb⟩
  generalize hB : hideAll h ((env :: outer).filterMap (·.frame)) = B2
  have hBh : B2.StaysIn h := fun b o q => by rw [← hB] at q; exact of_hideAll _ q
  have st : base.StaysIn B2 := fun b o q => by
    rw [← hB]
    exact hideAll_get _ (K'.stays b o q) fun hm => by rw [(K'.frames.mem hm).1] at q; cases q
  have FFh : h.FunFrames B2 (env :: outer) := hB ▸ funFrames_hide K'.frames hin
  have hgh : (hideAll g (outer.filterMap (·.frame))).StaysIn B2 := fun b o q => by
    have q1 := of_hideAll _ q
    rw [← hB]
    refine hideAll_get _ (F.keep b o q1) fun hm => ?_
    obtain ⟨env', he', hf'⟩ := List.mem_filterMap.mp hm
    rcases List.mem_cons.mp he' with rfl | he'
    · rw [hf] at hf'
      cases hf'
      exact absurd (Nat.lt_of_lt_of_le (Heap.lt_size q1) F.above) (Nat.lt_irrefl _)
    · rw [hideAll_none _ (List.mem_filterMap.mpr ⟨env', he', hf'⟩)] at q
      cases q
  have fresh : ∀ b, h.get? b = none → B2.get? b = none := fun b hb => by
    cases hq : B2.get? b with
    | none => rfl
    | some o' => have := hBh b o' hq; rw [hb] at this; cases this
  obtain ⟨oe, tp, z1, z2, z3⟩ := hx.there
  refine noteFrame_firstX (oe := oe) (a0 := tp) hfr (FFh.of_keeps fun b o hb _ => ⟨o, hx.keeps b o hb, rfl⟩) hf z1 (fun b o q => hx.keeps b o (hBh b o q)) (fresh e hx.new) z3 rfl rfl rfl fun h2 k1 k2 k3 k4 => ?_
  rw [z2] at k3
  refine setFlight_noneX k1 k2 k3 fun h3 l1 l2 l3 l4 => ?_
  have bs : base.StaysIn h3 := fun b o q => l1 b o (st b o q)
  obtain ⟨ob, hob, hobc⟩ := l3.to.there
  refine wpAny_handleBy_builtin (X := X) (T := X) (b := true) hexc hnt hsub ?_
  refine Name_function_global hk hxk (loadGlobal_builtin (by rw [hgl]; exact hg.keeps bs) hmiss (by rw [hbl]; exact hb.keeps bs) hv ⟨rfl, ⟨ob, hob, hobc⟩, ?_⟩) hxd
  rw [if_pos rfl]
  refine setFlight_noneX l1 l2 l3 fun h4 m1 m2 m3 m4 => ?_
  have bs4 : base.StaysIn h4 := fun b o q => m1 b o (st b o q)
  refine wpAny_passesOwnAt PassesOwnAt.leaving ?_
  obtain ⟨tl, N, nm, q, bsl, hdct, sn, sub, ab, col, dd, k0, k1', k2', k3', k5, mN, hC, hN, hni, T⟩ := O.obj
  refine wpAny_execs_cons (Raise_call_held (z := e) (C := C) (nm := nm) (q := q) (N := N) (bs := bsl) (bm := tl) (hdct := hdct) (sn := sn) (sub := sub) (ab := ab) (col := col) (dd := dd) (k0 := k0) (k1 := k1') (k2 := k2') (k3 := k3') (k5 := k5)
    FB (mN := mN) (T.hasType FB.hasBase) rfl (by rw [he]; rfl) hni ?_)
  refine Name_function_global hk hyk (loadGlobal_global (by rw [hgl]; exact hg.keeps bs4) O.bound ⟨rfl, ?_⟩) hyd
  rw [he]
  show wpAny _ _ (evalArgs (.ref C) true [(false, eval (.Constant (.str msg) kk kpos) env)] []) _ _ _
  refine evalArgs_plain (spliced_cons (Constant_str (k := kk) (pos := kpos) (spliced_nil ?_)))
  obtain ⟨oz, vz, y1, y2, y3, y4⟩ := m3.there
  refine ⟨rfl, (by show 1 ≤ sizeLine; decide), bs4 _ _ hC, hN.keeps bs4, T.keeps bs4, ⟨oz, vz, y1, y3, y4⟩, fun h5 e1 hm => ?_⟩
  obtain ⟨t, t1, t2, t3⟩ := hm.there
  have e1n : h4.get? e1 = none := hm.new
  have htn : h4.get? t = none := t2
  have nB : ∀ b, h4.get? b = none → B2.get? b = none := fun b hb => by
    cases hq : B2.get? b with
    | none => rfl
    | some o' => have := m1 b o' hq; rw [hb] at this; cases this
  have hte : t ≠ e1 := fun q => by rw [q, t1] at t3; cases t3
  have up5 : ∀ b o, h4.get? b = some o → (h5.update e1 (Obj.mapFields (·.setIfInBounds 2 (.ref e)))).get? b = some o := fun b o q => by
    rw [Heap.get?_update_other _ _ (fun z => by rw [← z, e1n] at q; cases q)]
    exact hm.keeps b o q
  refine wpAny_leaving_firstW (a0 := .ref t) (base := B2) hfr (m2.of_keeps fun b o hb _ => ⟨o, up5 b o hb, rfl⟩) hf (Heap.get?_update_self _ t1 rfl) (fun b o q => up5 b o (m1 b o q)) (nB e1 e1n) rfl rfl rfl fun h6 hL => ?_
  obtain ⟨n1, ⟨_, _, n2⟩, n3, n4⟩ := hL
  have up : g.UpToSlots h6 := ((((((Heap.UpToSlots.of_keeps F.keep).trans (Heap.UpToSlots.of_keeps hx.keeps)).trans k4).trans l4).trans m4).trans (Heap.UpToSlots.of_keeps up5)).trans n4
  show E0 (.ref e1) { s' with heap := h6, toks := s'.toks + 1 }
  refine hE h6 e1 t s'.toks _ ⟨fun b o q => n1 b o (hgh b o q), fresh_of_stays hgh (nB e1 e1n), funFrames_base hgh n2, ?_⟩ ?_ (fresh_of_stays hgh (nB t htn)) up
  · obtain ⟨oe, vs, T, oT, ts, a1, a2, a3, a4, a5, a6⟩ := n3
    exact ⟨oe, vs, T, oT, ts, a1, a2, a3, a4, fresh_of_stays hgh a5, a6⟩
  · exact Heap.TupAt.of_slots ⟨_, _, (Heap.get?_update_other _ _ (Ne.symm hte)).trans t3, rfl, rfl⟩ n4
end
section
variable {prog : Program} {w : World} {A₀ : Around} {E : Value → Shared → Prop} {s' : Shared} {env : Env}
theorem caughtC {base H : Heap} {outer : List Env} {L e t C : Addr} {m mg : Str → Option Value} {news : List (Addr × Obj)} {x n : Str} {np pos : Pos} {b₀ : Stmt} {suite : List Stmt} {rest : List ExceptHandler} {Q : Flow → Shared → Prop}
    {bmB : List Value} {newId : String} {vs : List Value}
    (hfr : (A₀.deeper env).frames = some (env :: outer)) (hf : env.frame = some L) (hL : env.locals = L) (hk : env.scope.kind = .function) (hgl : env.globals = mainGlobals)
    (F : Fr base L H m) (N : News base L H news) (hout : outer = [])
    (hfl : Heap.FlyingW (hideAll H ((env :: outer).filterMap (·.frame))) (env :: outer) e (.ref C) (.ref t) s'.heap) (htup : s'.heap.TupAt t vs) (hnew : (hideAll H ((env :: outer).filterMap (·.frame))).get? t = none) (hsm : H.UpToSlots s'.heap)
    (hg : base.Ns mainGlobals mg) (O : OwnCls x C bmB newId mg base) (hbase : bmB.contains (.type "BaseException") = true)
    (k : ∀ h' news₂ tk, Fr base L h' (fun y => if y = n then some (.ref e) else m y) → News base L h' news₂ → Got news₂ e t (.ref C) vs → News base L h' news →
      wpAny (model prog w) ((A₀.deeper env).mark (some (.ref e))) (execs (b₀ :: suite) env)
        (fun f s₄ => wpAny (model prog w) (A₀.deeper env) (do bindName env n .none; unbindBehindTheSuite env n pos) (fun _ s₅ => Q f s₅) E s₄)
        (AsSuiteRaised (model prog w) ((A₀.deeper env).mark (some (.ref e))) env n pos (notedBy (model prog w) ((A₀.deeper env).mark (some (.ref e))) env (cameBackBy (model prog w) (A₀.deeper env) env E)))
        { s' with heap := h', toks := tk })
    (hlo : env.kindOf n = some .local) (hx : env.kindOf x = some .globalImplicit) (hd : (x == ("__debug__" : Str)) = false) :
    wpAny (model prog w) (A₀.deeper env) (noteFrame (.ref e) env)
      (fun _ s₂ => wpAny (model prog w) (A₀.deeper env) (setFlight (.ref e) none) (fun _ s₃ =>
        wpAny (model prog w) (A₀.deeper env) (handleBy (.ref e) env (.ExceptHandler (some (.Name x np)) (some n) (b₀ :: suite) pos :: rest)) Q E s₃) E s₂) E s' := by
  subst hout
  have hfm : (env :: []).filterMap (·.frame) = [L] := by simp [hf]
  rw [hfm] at hfl hnew
  have nm : ∀ b o, base.get? b = some o → b ∉ [L] := fun b o q hm => by
    rw [List.mem_singleton.mp hm] at q
    exact absurd (Nat.lt_of_lt_of_le (Heap.lt_size q) F.above) (Nat.lt_irrefl _)
  have hB : base.StaysIn (hideAll H [L]) := fun b o q => hideAll_get _ (F.keep b o q) (nm b o q)
  have hl : ∀ q ∈ news, (hideAll H [L]).get? q.1 = some q.2 ∧ base.get? q.1 = none := fun q hq =>
    ⟨hideAll_get _ (N q hq).1 (fun hm => (N q hq).2.1 (List.mem_singleton.mp hm)), (N q hq).2.2⟩
  have hLn : (hideAll H [L]).get? L = none := hideAll_none _ (.head _)
  refine wpAny_looks_onW hfr hf hfl fun h₄ hheld₄ hsm₄ => ?_
  refine wpAny_landsW hheld₄ fun h₅ hheld hsm₅' => ?_
  have hsm₅ := hsm₄.trans hsm₅'
  have hheld' := flyingW_base hB hheld
  have F₅ := F.of_stays hheld'.1 (hsm.trans hsm₅)
  obtain ⟨ob, hob, hobc⟩ := hheld'.there
  refine wpAny_handleBy_cons (codeAny_handlers_test (Name_function_global hk hx (loadGlobal_global (by rw [hgl]; exact hg.keeps F₅.keep) O.bound ?_) hd)) (by intro q; cases q)
  obtain ⟨bm, Nn, nmm, qn, bs, hdct, sn, sub, ab, col, dd, k0, k1, k2, k3, k5, mN, hC, hN, hni, TL⟩ := (O.keeps F₅.keep).obj
  refine wpAny_excMatches_sub_self hC hob hobc (TL.hasType hbase) (codeAny_handlers_suite_as ?_)
  refine lands_againW hheld fun h₆ hfl₆ hsm₆ => ?_
  have hfl₆' := flyingW_base hB hfl₆
  have F₆ := F.of_stays hfl₆'.1 ((hsm.trans hsm₅).trans hsm₆)
  obtain ⟨oe, ws, hoe, hoec, hoed, hoe0⟩ := hfl₆'.first
  obtain ⟨ot, nt, hot, hotc, hotd⟩ := (htup.of_slots hsm₅).of_slots hsm₆
  have N₆ := News.more F₆ (News.more F₆ News.nil hot (fun es n q => by rw [hotd] at q; cases q) (fresh_of_stays hB hnew)) hoe (fun es n q => by rw [hoed] at q; cases q) hfl₆'.2.1
  have Nl : News base L h₆ news := fun q hq => ⟨hfl₆.1 _ _ (hl q hq).1, (fun z => by have := (hl q hq).1; rw [z, hLn] at this; cases this), (hl q hq).2⟩
  have N₇ : News base L h₆ (_ ++ news) := fun q hq => (List.mem_append.mp hq).elim (N₆ q) (Nl q)
  refine wpAny_storeName_local hlo (by rw [hL]; exact F₆.ns) (fun h' hn hs => ?_) (by rw [hk]; rfl)
  rw [hL] at hn hs
  have F₈ := F₆.set hn hs
  have N₈ := N₇.set hs
  exact k h' _ _ F₈ (fun q hq => N₈ q (List.mem_append_left _ hq)) ⟨oe, ot, ws, nt, .head _, .tail _ (.head _), hoec, hoed, hoe0, hotc, hotd⟩ fun q hq => N₈ q (List.mem_append_right _ hq)
end
end Mine
end
section
open PySem PySem.W PySem.Calls PyProof.Rows PySem.SeqAt
set_option Elab.async false
set_option maxRecDepth 100000
namespace Mine
section
variable {prog : Program} {w : World} {A : Around} {E : Value → Shared → Prop} {s : Shared}
theorem eqAt_copy {A : Around} {p q : Addr} {ps : Array Value} (hp : s.heap.IsList p ps) (hq : s.heap.IsList q ps) (hne : p ≠ q) (hu : A.units < cLine) : EqAt A s (.ref p) (.ref q) true := by
  have := EqAt.of_refs (A := A) (s := s) hne (RcAt.lists (e := fun _ => true) hp hq rfl hu fun j h1 h2 => EqAt.same _)
  rwa [List.all_eq_true.mpr (fun _ _ => rfl)] at this
theorem eq_kept {a b p q p' q' : Addr} {ps qs : Array Value} {Q : Value → Shared → Prop} (ha : s.heap.IsList a #[.ref p, .ref q]) (hb : s.heap.IsList b #[.ref p', .ref q']) (hp : s.heap.IsList p ps) (hp' : s.heap.IsList p' ps)
    (hq : s.heap.IsList q qs) (hq' : s.heap.IsList q' qs) (n1 : @Ne Nat p p') (n2 : @Ne Nat q q') (hu : A.units + 1 < cLine) (h : Q (.bool true) s) : wpAny (model prog w) A (compareOp .Eq (.ref a) (.ref b)) Q E s := by
  refine eq_listAt (e := fun _ => true) ha hb rfl (Nat.lt_of_succ_lt hu) (fun j h1 h2 => ?_) ?_
  · have : j = 0 ∨ j = 1 := by
      have : j < 2 := h1
      omega
    rcases this with rfl | rfl
    · exact eqAt_copy hp hp' n1 (by simpa using hu)
    · exact eqAt_copy hq hq' n2 (by simpa using hu)
  · rw [List.all_eq_true.mpr (fun _ _ => rfl)]
    exact h
theorem ne_kept {a b p q p' q' : Addr} {ps qs : Array Value} {Q : Value → Shared → Prop} (ha : s.heap.IsList a #[.ref p, .ref q]) (hb : s.heap.IsList b #[.ref p', .ref q']) (hp : s.heap.IsList p ps) (hp' : s.heap.IsList p' ps)
    (hq : s.heap.IsList q qs) (hq' : s.heap.IsList q' qs) (n1 : @Ne Nat p p') (n2 : @Ne Nat q q') (hu : A.units + 1 < cLine) (h : Q (.bool false) s) : wpAny (model prog w) A (compareOp .NotEq (.ref a) (.ref b)) Q E s := by
  refine RcNeAt.lists (e := fun _ => true) ha hb rfl (Nat.lt_of_succ_lt hu) (fun j h1 h2 => ?_) prog w E Q ?_
  · have : j = 0 ∨ j = 1 := by
      have : j < 2 := h1
      omega
    rcases this with rfl | rfl
    · exact eqAt_copy hp hp' n1 (by simpa using hu)
    · exact eqAt_copy hq hq' n2 (by simpa using hu)
  · rw [List.all_eq_true.mpr (fun _ _ => rfl)]
    exact h
end
end Mine
end
section
open PySem PySem.W PySem.Calls PyProof.Rows PySem.Builtin PySem.Builtin.Str PySem.Builtin.BaseException
set_option maxHeartbeats 400000
set_option Elab.async false
set_option maxRecDepth 100000
namespace Mine
theorem kind_bstr : builtinKind "BaseException.__str__" = some .slot := by decide +kernel
theorem split_bstr : splitId "BaseException.__str__" = some ("BaseException", "__str__") := by decide +kernel
section
variable {prog : Program} {w : World} {A : Around} {E : Value → Shared → Prop}
variable {nm q : Str} {C N e t : Addr} {bs bm : List Value} {hdct : Bool} {sn : List Str} {sub : List Value} {ab : Bool} {col : Option Bool} {dd : Option Addr} {k0 k1 k2 k3 k5 : Option Value} {B newId n : String} {mN : Str → Option Value} {o : Obj} {ws : Array Value} {m : Str} {tk : Tok}
def OwnAt (C N e t : Addr) (bm : List Value) (m : Str) (tk : Tok) (h : Heap) : Prop :=
  ∃ nm q bs hdct sn sub ab col dd k0 k1 k2 k3 k5 newId mN o ws, h.get? C = some (excClassObj nm q C N bs bm hdct sn sub ab col dd k0 k1 k2 k3 k5 newId) ∧ h.Ns N mN ∧ mN "__str__" = none ∧ h.get? e = some o ∧ o.cls = .ref C ∧ o.data = .fields ws ∧ ws[0]? = some (.ref t) ∧ h.TupAt t [.str m tk]
theorem bexcArgs_own {M : Model} {s : Shared} {items : List Value} {Q : Value × List Value → Shared → Prop} (ho : s.heap.get? e = some o) (hd : o.data = .fields ws) (h0 : ws[0]? = some (.ref t)) (ht : s.heap.TupAt t items) (hq : Q (.ref t, items) s) :
    wpAny M A (bexcArgs (.ref e)) Q E s := by
  obtain ⟨ot, k, hto, _, htd⟩ := ht
  unfold bexcArgs
  refine wpAny_bind (wpAny_field ho hd h0 (wpAny_bind (wpAny_seqItems hto htd ?_)))
  have : items.toArray.toList = items := by simp
  show wpAny M A (pure (Value.ref t, items.toArray.toList)) Q E s
  rw [this]; exact wpAny_pure hq
theorem strOf_own {s : Shared} {Q : Value → Shared → Prop} (FX : ExcStrFacts B n) (hbm : mroOf (.type B) = pure bm) (hob : bm.contains (.type "BaseException") = true) (hu : A.units < cLine) (x : OwnAt C N e t bm m tk s.heap) (hq : Q (.str m tk) s) :
    wpAny (model prog w) A (Str.strOf (.ref e)) Q E s := by
  obtain ⟨nm, q, bs, hdct, sn, sub, ab, col, dd, k0, k1, k2, k3, k5, newId, mN, o, ws, hC, hn, hno, hx, hc, hd, h0, ht⟩ := x
  obtain ⟨hp, g, d, tk', os⟩ := s
  dsimp only at hC hn hx ht
  have hcb : wpAny (model prog w) A (call (.builtin "BaseException.__str__") [.ref e]) (fun v s' => v = .str m tk ∧ s' = ⟨hp, g, d, tk', os⟩) E ⟨hp, g, d, tk', os⟩ := by
    refine wpAny_call (codeAny_call_builtin FX.str.plain F.entry_bexc_str ?_)
    with_reducible refine wpAny_check_slot_inst kind_bstr split_bstr (F.args_bexc_str _) hob hx hc hC ?_
    unfold Builtin.«BaseException.__str__»
    repeat (first | with_reducible refine bexcArgs_own (s := ⟨hp, g, d, tk', os⟩) hx hd h0 ht ?_ | wp_step)
    exact ⟨rfl, rfl⟩
  have hcall : wpAny (model prog w) A (callSpecial? (.ref e) "__str__") (fun v s' => v = some (.str m tk) ∧ s' = ⟨hp, g, d, tk', os⟩) E ⟨hp, g, d, tk', os⟩ := by
    simp only [callSpecial?]
    refine wpAny_bind (wpAny_specialOf_inst hx hc hC hn hno hbm FX.str.lookup ?_)
    simp only [FX.str.bind]
    exact wpAny_holding (wpAny_bind (wpAny_pure (wpAny_bind (wpAny_mono hcb (fun v s' h' => wpAny_pure ⟨by rw [h'.1], h'.2⟩) fun _ _ h' => h'))))
  unfold Str.strOf
  repeat (first | with_reducible refine wpAny_cRoomFor hu ?_ | with_reducible refine wpAny_bind (wpAny_mono hcall (fun v s' h' => ?_) fun _ _ z => z) | (obtain ⟨rfl, rfl⟩ := h') | wp_step)
  exact hq
theorem str_of_own {s : Shared} {Q : Value → Shared → Prop} (FX : ExcStrFacts B n) (hbm : mroOf (.type B) = pure bm) (hob : bm.contains (.type "BaseException") = true) (hu : A.units + 2 < cLine) (x : OwnAt C N e t bm m tk s.heap) (hq : Q (.str m tk) s) :
    wpAny (model prog w) A (call (.type "str") [.ref e]) Q E s :=
  callType_new F.called_str (by decide) (F.typeCall_str_1 _) (F.newCall_str_1 _) (fun obj => F.args_object_init_2 obj _) F.entry_str_new
    (meets_str_new (S := fun A' R s' => A'.units + 1 < cLine ∧ OwnAt C N e t bm m tk s'.heap ∧ R (.ok (.ret (.str m tk))) s')
      fun _ _ A' _ _ hq => strOf_own (A := A'.in1) FX hbm hob hq.1 hq.2.1 hq.2.2)
    ⟨(show A.units + 1 + 1 < cLine from hu), x, typeIs_str _ _ _, hq⟩
end
theorem nsOk_of_exc {K : Frag} {C : Addr} {bmB : List Value} {newId newId' : String} {nm qn : Str} {N : Addr} {bs bm : List Value} {hdct : Bool} {sn : List Str} {sub : List Value} {ab : Bool} {col : Option Bool} {dd : Option Addr} {k0 k1 k2 k3 k5 : Option Value}
    (q : excIn K C bmB newId = true) (hl : K.lookup C = some (excClassObj nm qn C N bs bm hdct sn sub ab col dd k0 k1 k2 k3 k5 newId')) : nsOkIn K N = true := by
  unfold excIn at q
  rw [hl] at q
  simp only [excClassObj, Bool.and_eq_true] at q
  exact q.1.2
end Mine
end
section
open PySem PySem.W PySem.Calls PyProof.Rows PySem.Flt
set_option Elab.async false
set_option maxRecDepth 100000
namespace Mine
section
variable {prog : Program} {w : World} {A : Around} {E : Value → Shared → Prop} {s : Shared} {h₀ : Heap} {L : Addr} {m : Str → Option Value} {news : List (Addr × Obj)} {x : UInt64} {t : Tok}
theorem getMethod_ratio {M : Model} {pl : Sem Bool} {Q : Value × List Value → Shared → Prop} (h : Q (.builtin "float.as_integer_ratio", [.float x t]) s) : wpAny M A (getMethod (.float x t) "as_integer_ratio" pl) Q E s := by
  with_reducible exact getMethod_builtin (typeIs_float _ _ _) F.plainAttrs_float F.slot_float_as_integer_ratio F.type_float_as_integer_ratio (fun _ e => nomatch e) h
theorem call_ratio {sg : Bool} {mm : Nat} {e : Int} {Q : Value → Shared → Prop} (FF : Fr h₀ L s.heap m) (N : News h₀ L s.heap news) (hd : Float64.decode x = .fin sg mm e)
    (h : ∀ D h' tk t1 t2, Fr h₀ L h' m → News h₀ L h' ((D, { cls := .type "tuple", data := .seq #[.int (Float64.sgn sg (Float64.ratio mm e).1) t1, .int ((Float64.ratio mm e).2 : Nat) t2] }) :: news) → (∀ p ∈ news, (@LT.lt Nat _ p.1 D)) → Q (.ref D) { s with heap := h', toks := tk }) :
    wpAny (model prog w) A (call (.builtin "float.as_integer_ratio") [.float x t]) Q E s := by
  refine wpAny_call_entry F.slot_float_as_integer_ratio (typeIs_float s x t) F.entry_float_as_integer_ratio ?_ (F.args_float_as_integer_ratio_1 _)
  obtain ⟨hp, g, d, tk, os⟩ := s
  unfold Builtin.«float.as_integer_ratio»
  repeat (first | (rw [hd]) | with_reducible refine newTuple_ (by decide) ?_ | wp_step)
  have k : ∀ b o, hp.get? b = some o → (hp.push { cls := .type "tuple", data := .seq #[.int (Float64.sgn sg (Float64.ratio mm e).1) tk, .int ((Float64.ratio mm e).2 : Nat) (tk + 1)] }).get? b = some o := fun b o e => Heap.get?_push_of_some _ e
  exact ⟨_, rfl, h hp.objs.size _ _ tk (tk + 1) (FF.keeps k) (News.new FF (N.grown k) (Heap.get?_push_size _ rfl) (Heap.get?_none_of_le (Nat.le_refl _))) fun p hp' => Heap.lt_size (N p hp').1⟩
end
end Mine
end
section
open PySem PySem.W PySem.Calls PyProof.Rows
set_option Elab.async false
set_option maxRecDepth 100000
namespace Mine
section
variable {prog : Program} {w : World} {A : Around} {E : Value → Shared → Prop} {s : Shared} {env : Env}
theorem IsList_typeIs {s : Shared} {l : Addr} {its : Array Value} (h : s.heap.IsList l its) : s.TypeIs (.ref l) "list" := let ⟨o, ho, hc, _⟩ := h; ⟨o, ho, hc⟩
theorem subscript_cell0 {p : Str} {c l : Addr} {oc : Obj} {its : Array Value} {v : Value} {pp pk ps : Pos} {k : Nat} {Q : Value → Shared → Prop} (hkind : env.scope.kind = .function) (hpk : env.kindOf p = some .cell) (hc : env.cells.lookup p = some c) (hg : s.heap.get? c = some oc) (hd : oc.data = .cell (some (.ref l)))
    (hl : s.heap.IsList l its) (h0 : its[0]? = some v) (dp : (p == ("__debug__" : Str)) = false) (h : Q v { s with toks := s.toks + 1 }) :
    wpAny (model prog w) A (eval (.Subscript (.Name p pp) (.Constant (.int 0) k pk) ps) env) Q E s := by
  refine Subscript_Constant (wpAny_Name (wpAny_loadName_cell hkind hpk hc ⟨oc, hg, hd⟩ ?_) dp)
  refine wpAny_Constant_int ?_
  exact ⟨"list", "list.__getitem__", F.slot_list_getitem.lookup, IsList_typeIs (s := { s with toks := s.toks + 1 }) hl, wpAny_getItem_list hl (by decide) (by decide) h0 h⟩
theorem el_way {scope : Scope} {cl : List (Str × Addr)} {x x₂ p q : Str} {px px₂ pp pq pk pk₂ ps ps₂ pb pb₂ pt : Pos} {k k₂ kk : Nat} {c c₂ l l₂ : Addr} {oc oc₂ : Obj} {its its₂ : Array Value} {p0 q0 a b : Int} {tp tq ta tb : Tok} {g : Heap} {s₁ : Shared}
    (hkind : scope.kind = .function) (hxk : ∀ C, (compEnvC scope cl C env).kindOf x = some .local) (hx₂k : ∀ C, (compEnvC scope cl C env).kindOf x₂ = some .local)
    (hpk : ∀ C, (compEnvC scope cl C env).kindOf p = some .cell) (hqk : ∀ C, (compEnvC scope cl C env).kindOf q = some .cell) (hc : cl.lookup p = some c) (hc₂ : cl.lookup q = some c₂)
    (hg : g.get? c = some oc) (hd : oc.data = .cell (some (.ref l))) (hg₂ : g.get? c₂ = some oc₂) (hd₂ : oc₂.data = .cell (some (.ref l₂)))
    (hl : g.IsList l its) (h0 : its[0]? = some (.int p0 tp)) (hl₂ : g.IsList l₂ its₂) (h0₂ : its₂[0]? = some (.int q0 tq))
    (dx : (x == ("__debug__" : Str)) = false) (dx₂ : (x₂ == ("__debug__" : Str)) = false) (dp : (p == ("__debug__" : Str)) = false) (dq : (q == ("__debug__" : Str)) = false) :
    ElOk2 prog w A env (.Tuple [.BinOp (.Name x px) .Sub (.Subscript (.Name p pp) (.Constant (.int 0) k pk) ps) pb, .BinOp (.Name x₂ px₂) .Sub (.Subscript (.Name q pq) (.Constant (.int 0) k₂ pk₂) ps₂) pb₂] kk pt) scope cl x x₂ g s₁ (.int a ta) (.int b tb)
      (fun hb y ha => ∃ t t1 t2, y = .ref t ∧ hb.get? t = none ∧ ha.get? t = some { cls := .type "tuple", data := .seq #[.int (a - p0) t1, .int (b - q0) t2] }) := by
  intro C h tk m' hn hxm hx2m hk
  have kl : h.IsList l its := hl.at fun o e => hk l o e
  have kl₂ : h.IsList l₂ its₂ := hl₂.at fun o e => hk l₂ o e
  refine wpAny_Tuple_spliced ?_
  show wpAny _ _ (spliced [(false, eval (.BinOp (.Name x px) .Sub (.Subscript (.Name p pp) (.Constant (.int 0) k pk) ps) pb) (compEnvC scope cl C env)), (false, eval (.BinOp (.Name x₂ px₂) .Sub (.Subscript (.Name q pq) (.Constant (.int 0) k₂ pk₂) ps₂) pb₂) (compEnvC scope cl C env))]) _ _ _
  refine spliced_cons (wpAny_BinOp (wpAny_Name (wpAny_loadName_local hkind (hxk C) hn hxm ?_) dx))
  refine subscript_cell0 hkind (hpk C) hc (hk _ _ hg) hd kl h0 dp ?_
  refine sub_int ?_
  refine spliced_cons (wpAny_BinOp (wpAny_Name (wpAny_loadName_local hkind (hx₂k C) hn hx2m ?_) dx₂))
  refine subscript_cell0 hkind (hqk C) hc₂ (hk _ _ hg₂) hd₂ kl₂ h0₂ dq ?_
  refine sub_int ?_
  refine spliced_nil ?_
  refine ⟨by show 2 ≤ sizeLine; decide, ⟨_, _, rfl, fun b o e => Heap.get?_push_of_some _ e⟩, h.objs.size, _, _, rfl, Heap.get?_none_of_le (Nat.le_refl _), Heap.get?_push_size _ rfl⟩
end
end Mine
end
section
open PySem PySem.W PySem.Calls PyProof.Rows
set_option Elab.async false
set_option maxRecDepth 100000
namespace Mine
section
variable {prog : Program} {w : World} {A : Around} {E : Value → Shared → Prop} {s : Shared} {env : Env} {h₀ : Heap} {L : Addr} {m : Str → Option Value} {news : List (Addr × Obj)}
/-- the tests of a filter at the item v give b -/
def TestOk (prog : Program) (w : World) (A : Around) (env : Env) (ifs : List PySem.Expr) (scope : Scope) (cl : List (Str × Addr)) (x : Str) (s₁ : Shared) (v : Value) (b : Bool) : Prop :=
  ∀ C h tk m', h.Ns C m' → m' x = some v → (∀ b o, s₁.heap.get? b = some o → h.get? b = some o) →
    wpAny (model prog w) A (testsOf ifs (compEnvC scope cl C env)) (fun ok s₆ => ok = b ∧ ∃ h6 tk6, s₆ = { s₁ with heap := h6, toks := tk6 } ∧ ∀ b o, h.get? b = some o → h6.get? b = some o) (fun _ _ => False) { s₁ with heap := h, toks := tk }

theorem turnOk_filter {x : Str} {px pe : Pos} {ifs : List PySem.Expr} {scope : Scope} {cl : List (Str × Addr)} {its : Array Value} {wr : List Addr} {p : Nat → Bool} {s₁ s₂ : Shared} (hkind : scope.kind = .function) (hx : scope.names.lookup x = some .local) (dx : (x == ("__debug__" : Str)) = false)
    (hs : ∃ h tk, s₂ = { s₁ with heap := h, toks := tk }) (hk : ∀ b o, s₁.heap.get? b = some o → b ∉ wr ∧ s₂.heap.get? b = some o) (he : ∀ (i : Nat) v, its[i]? = some v → TestOk prog w A env ifs scope cl x s₁ v (p i)) :
    TurnOk prog w A env (.Name x px) (.Name x pe) ifs scope cl its.size wr (fun i v _ => its[i]? = some v) p (fun _ i y _ => its.toList[i]? = some y) s₂ := by
  obtain ⟨h2, tk2, rfl⟩ := hs
  intro C hide i v h tk m' hi hC hv hn hkeep hlive hh
  refine wpAny_assign_Name (wpAny_storeName_local (lookup_relabel_local hx) hn (fun h' hn' hs' => ?_) (by simp [compEnvC, relabel, hkind]))
  have hCs : ∀ b o, s₁.heap.get? b = some o → b ≠ C := fun b o e q => by
    have := Heap.lt_size (hk b o e).2
    rw [q] at this
    exact absurd this (Nat.not_lt.mpr hC)
  have k1 : ∀ b o, s₁.heap.get? b = some o → h'.get? b = some o := fun b o e => (hs'.2 b (hCs b o e)).trans (hkeep b o (hk b o e).1 (hk b o e).2)
  refine wpAny_mono (he i v hv C h' (tk + 1) _ hn' (by simp) k1) (fun ok s₅ h5 => ?_) fun _ _ q => q
  obtain ⟨rfl, h5, tk5, rfl, hk5⟩ := h5
  refine ⟨rfl, ⟨h5, tk5, rfl, fun b o hb e => hk5 b o ((hs'.2 b hb).trans e), _, hn'.keeps hk5⟩, fun _ => ?_⟩
  refine wpAny_Name (wpAny_loadName_local hkind (lookup_relabel_local hx) (hn'.keeps hk5) (v := v) (if_pos rfl) ?_) dx
  exact ⟨⟨h5, tk5, rfl, fun b o hb e => hk5 b o ((hs'.2 b hb).trans e), _, hn'.keeps hk5⟩, by simpa using hv⟩

theorem block_filter {iter : PySem.Expr} {x : Str} {px pe : Pos} {ifs : List PySem.Expr} {scope : Scope} {cl : List (Str × Addr)} {pos : Pos} {s₁ : Shared} {ax : Addr} {its : Array Value} {p : Nat → Bool} {RR : Value → Addr → Result → Shared → Prop}
    (hA : A.handled = none) (hcell : ∀ y ∈ scope.names, y.2 ≠ .cell) (hkind : scope.kind = .function) (hx : scope.names.lookup x = some .local) (dx : (x == ("__debug__" : Str)) = false) (hl : s₁.heap.IsList ax its) (hsz : its.size ≤ sizeLine)
    (he : ∀ (i : Nat) v, its[i]? = some v → TestOk prog w A env ifs scope cl x s₁ v (p i))
    (hRR : ∀ D C h' tk m' ys, s₁.heap.get? D = none → s₁.heap.get? C = none → D ≠ C → h'.Ns C m' → h'.get? D = some (listOf (List.toArray ys) ys.length) → Paired (fun i y => its.toList[i]? = some y) ((List.range its.size).filter p) ys →
      (∀ b o, s₁.heap.get? b = some o → h'.get? b = some o) → RR (.ref D) C (.ok .next) { s₁ with heap := h', toks := tk }) :
    wpAny (model prog w) A (pyIter (.ref ax)) (fun it s₂ => wpAny (model prog w) A (newList []) (fun acc s₃ => wpAny (model prog w) A (newFunctionEnv scope env.globals cl [] env.qual none .none (some env)) (fun cenv s₄ =>
      codeAny (model prog w) A (.compStart (.ListComp (.Name x pe) [⟨.Name x px, iter, ifs, 0⟩] scope pos) 0 it acc { cenv with scope := relabel scope env }) (RR acc cenv.locals) s₄) E s₃) E s₂) E s₁ := by
  have hlt : ax < s₁.heap.objs.size := by obtain ⟨_, e, _⟩ := hl; exact Heap.lt_size e
  refine wpAny_pyIter_list hl ?_
  have up : ∀ b o, s₁.heap.get? b = some o → (s₁.heap.push { cls := .type "list_iterator", data := .fields #[.ref ax, .int 0 0] }).get? b = some o := fun b o e => Heap.get?_push_of_some _ e
  have W := Walks.list (prog := prog) (w := w) (A := A) hA s₁.heap.objs.size ax (Nat.ne_of_lt hlt) its
  refine comp_block_turns (KTurns.ofWalks (target := .Name x px) W (fun i v s Q E _ hq => wpAny_of_eq (show letOwnedTupleGo (.Name x px) _ v = pure () from rfl) hq)) W.self ?_ hsz p (fun _ i y _ => its.toList[i]? = some y) (fun _ _ _ _ _ _ h => h) hcell hkind
    ⟨⟨_, Heap.get?_push_size _ rfl, rfl, rfl⟩, hl.push _⟩ (fun b hb => ?_) (turnOk_filter hkind hx dx ⟨_, _, rfl⟩ (fun b o e => ⟨?_, up b o e⟩) he) ?_
  · rintro i h ⟨⟨_, e1, _⟩, _⟩ b hb
    rw [List.mem_singleton.mp hb, e1]; exact fun q => (nomatch q)
  · show b < (s₁.heap.push _).objs.size
    rw [Heap.size_push]
    rcases List.mem_cons.mp hb with rfl | hb
    · exact Nat.lt_succ_self _
    · rw [List.mem_singleton.mp hb]; exact Nat.lt_succ_of_lt hlt
  · intro q
    rw [List.mem_singleton.mp q] at e
    exact absurd (Heap.lt_size e) (Nat.lt_irrefl _)
  · intro D C h' tk m' ys hD hC hDC hn hl' hp hk
    have none_of : ∀ c, (s₁.heap.push { cls := .type "list_iterator", data := .fields #[.ref ax, .int 0 0] }).get? c = none → s₁.heap.get? c = none := fun c e => by
      cases q : s₁.heap.get? c with
      | none => rfl
      | some o => rw [up c o q] at e; cases e
    refine hRR D C h' tk m' ys (none_of _ hD) (none_of _ hC) hDC hn hl' hp fun b o e => hk b o (fun q => ?_) (up b o e)
    rw [List.mem_singleton.mp q] at e
    exact absurd (Heap.lt_size e) (Nat.lt_irrefl _)

/-- [x for x in ITER if ..] as a value -/
theorem ListComp_filter {iter : PySem.Expr} {x : Str} {px pe : Pos} {ifs : List PySem.Expr} {scope : Scope} {cl : List (Str × Addr)} {pos : Pos} {Q : Value → Shared → Prop} (hA : A.handled = none)
    (hclos : closureFor scope env = pure cl) (hcell : ∀ y ∈ scope.names, y.2 ≠ .cell) (hkind : scope.kind = .function)
    (hnames : ∀ y ∈ scope.names, y.2 = .local → scope.names.lookup y.1 = some .local) (hx : scope.names.lookup x = some .local) (dx : (x == ("__debug__" : Str)) = false)
    (h : wpAny (model prog w) A (eval iter env) (fun xv s₁ => ∃ ax its m' news' p, xv = .ref ax ∧ Fr h₀ L s₁.heap m' ∧ News h₀ L s₁.heap news' ∧ s₁.heap.IsList ax its ∧ its.size ≤ sizeLine ∧ (∀ (i : Nat) v, its[i]? = some v → TestOk prog w A env ifs scope cl x s₁ v (p i)) ∧
      ∀ D h' tk ys, Fr h₀ L h' m' → News h₀ L h' ((D, listOf (List.toArray ys) ys.length) :: news') → s₁.heap.get? D = none → Paired (fun i y => its.toList[i]? = some y) ((List.range its.size).filter p) ys → Q (.ref D) { s₁ with heap := h', toks := tk }) E s)
    (hs : ∀ x, foldedSetIterable iter env x = pure x := by intro _; rfl) :
    wpAny (model prog w) A (eval (.ListComp (.Name x pe) [⟨.Name x px, iter, ifs, 0⟩] scope pos) env) Q E s := by
  rw [eval_ListComp]
  refine wpAny_comprehension_free (use := none) rfl hs hclos hkind hnames (wpAny_mono h (fun xv s₁ h₁ => ?_) fun _ _ e => e)
  obtain ⟨ax, its, m', news', p, rfl, F, N, hl, hsz, he, hQ⟩ := h₁
  refine block_filter (RR := fun acc C => compPost (model prog w) A E none Q acc C) hA hcell hkind hx dx hl hsz he ?_
  intro D C h' tk m'' ys hD hC hDC hn hl' hp hk
  refine ⟨m'', hn, fun h'' hs'' => ?_⟩
  have k2 : ∀ b o, s₁.heap.get? b = some o → h''.get? b = some o := fun b o e => (hs''.2 b (by rintro rfl; rw [hC] at e; cases e)).trans (hk b o e)
  exact hQ D h'' tk ys (F.keeps k2) (News.new F (N.grown k2) ((hs''.2 D hDC).trans hl') hD) hD hp
/-- y = [x for x in ITER if ..] -/
theorem Assign_filter {iter : PySem.Expr} {x y : Str} {px pe py : Pos} {ifs : List PySem.Expr} {scope : Scope} {cl : List (Str × Addr)} {pos spos : Pos} {Q : Flow → Shared → Prop} (hA : A.handled = none) (hLe : env.locals = L)
    (hsw : swapsWith (.ListComp (.Name x pe) [⟨.Name x px, iter, ifs, 0⟩] scope pos) (some (.Name y py)) spos.line env = pure true)
    (hclos : closureFor scope env = pure cl) (hcell : ∀ z ∈ scope.names, z.2 ≠ .cell) (hkind : scope.kind = .function)
    (hnames : ∀ z ∈ scope.names, z.2 = .local → scope.names.lookup z.1 = some .local) (hx : scope.names.lookup x = some .local) (dx : (x == ("__debug__" : Str)) = false)
    (hy : env.kindOf y = some .local) (hp : (env.scope.kind == .class || (env.scope.kind == .module && env.locals != env.globals)) = false)
    (h : wpAny (model prog w) A (eval iter env) (fun xv s₁ => ∃ ax its m' news' p, xv = .ref ax ∧ Fr h₀ L s₁.heap m' ∧ News h₀ L s₁.heap news' ∧ s₁.heap.IsList ax its ∧ its.size ≤ sizeLine ∧ (∀ (i : Nat) v, its[i]? = some v → TestOk prog w A env ifs scope cl x s₁ v (p i)) ∧
      ∀ D h' tk ys, Fr h₀ L h' (fun z => if z = y then some (.ref D) else m' z) → News h₀ L h' ((D, listOf (List.toArray ys) ys.length) :: news') → Paired (fun i y => its.toList[i]? = some y) ((List.range its.size).filter p) ys → Q .next { s₁ with heap := h', toks := tk }) E s)
    (hs : ∀ x, foldedSetIterable iter env x = pure x := by intro _; rfl) :
    wpAny (model prog w) A (exec (.Assign [.Name y py] (.ListComp (.Name x pe) [⟨.Name x px, iter, ifs, 0⟩] scope pos) spos) env) Q E s := by
  subst hLe
  rw [exec_Assign_Name_used _ _ _ _ hsw]
  refine wpAny_bind (wpAny_standAt (wpAny_bind ?_))
  show wpAny _ A (do let _ ← comprehension (.ListComp (.Name x pe) [⟨.Name x px, iter, ifs, 0⟩] scope pos) scope env _ (newList []) false (eval iter env) (some (assign (.Name y py) env))) _ _ s
  refine wpAny_bind (wpAny_mono (wpAny_comprehension_free (use := some (assign (.Name y py) env)) (Q := fun _ s' => Q .next s') rfl hs hclos hkind hnames
    (wpAny_mono h (fun xv s₁ h₁ => ?_) fun _ _ e => e)) (fun _ s' hq => wpAny_pure (wpAny_pure hq)) fun _ _ e => e)
  obtain ⟨ax, its, m', news', p, rfl, F, N, hl, hsz, he, hQ⟩ := h₁
  refine block_filter (RR := fun acc C => compPost (model prog w) A E (some (assign (.Name y py) env)) (fun _ s' => Q .next s') acc C) hA hcell hkind hx dx hl hsz he ?_
  intro D C h' tk m'' ys hD hC hDC hn hl' hp' hk
  have F1 := F.keeps hk
  have hCL : C ≠ env.locals := by rintro rfl; obtain ⟨o, _, _, ho, _⟩ := F.ns; rw [hC] at ho; cases ho
  have hDL : D ≠ env.locals := by rintro rfl; obtain ⟨o, _, _, ho, _⟩ := F.ns; rw [hD] at ho; cases ho
  show wpAny _ A (assign (.Name y py) env (.ref D)) _ _ _
  refine wpAny_assign_Name (wpAny_storeName_local hy F1.ns (fun h₂ hn₂ hs₂ => ?_) hp)
  refine ⟨m'', hn.sameBut hs₂ hCL, fun h₃ hs₃ => ?_⟩
  have N1 : News h₀ env.locals h' ((D, listOf (List.toArray ys) ys.length) :: news') := News.new F (N.grown hk) hl' hD
  have N2 := N1.set hs₂
  have F2 := F1.set hn₂ hs₂
  have off : ∀ c, s₁.heap.get? c ≠ none → c ≠ C := fun c hc q => hc (q ▸ hC)
  refine hQ D h₃ _ ys ⟨F2.ns.sameBut hs₃ (Ne.symm hCL), fun b o e => (hs₃.2 b (off b (by rw [F.keep b o e]; exact fun q => (nomatch q)))).trans (F2.keep b o e), F2.above⟩ (fun p hp2 => ?_) hp'
  refine ⟨(hs₃.2 p.1 ?_).trans (N2 p hp2).1, (N2 p hp2).2⟩
  rcases List.mem_cons.mp hp2 with rfl | hp3
  · exact hDC
  · exact off _ (by rw [(N p hp3).1]; exact fun q => (nomatch q))
end
end Mine
end
section
open PySem PySem.W PySem.Calls PyProof.Rows PySem.SeqAt
set_option Elab.async false
set_option maxRecDepth 100000
namespace Mine
section
variable {prog : Program} {w : World} {A : Around} {E : Value → Shared → Prop} {s : Shared} {env : Env}
/-- way != (0, 0) -/
theorem test_ne00 {scope : Scope} {cl : List (Str × Addr)} {x : Str} {px p1 p2 pt pc : Pos} {k1 k2 kk : Nat} {s₁ : Shared} {t : Addr} {a b : Int} {ta tb : Tok} (hkind : scope.kind = .function) (hxk : ∀ C, (compEnvC scope cl C env).kindOf x = some .local) (dx : (x == ("__debug__" : Str)) = false)
    (hu : A.units < cLine) (ht : s₁.heap.get? t = some { cls := .type "tuple", data := .seq #[.int a ta, .int b tb] }) :
    TestOk prog w A env [.Compare (.Name x px) [.NotEq] [.Tuple [.Constant (.int 0) k1 p1, .Constant (.int 0) k2 p2] kk pt] pc] scope cl x s₁ (.ref t) (!(a == 0 && b == 0)) := by
  intro C h tk m' hn hxm hk
  refine wpAny_tests_one ?_
  refine wpAny_isTrue_Compare1 ?_
  refine wpAny_Name (wpAny_loadName_local hkind (hxk C) hn hxm ?_) dx
  refine wpAny_Tuple_spliced ?_
  show wpAny _ _ (spliced [(false, eval (.Constant (.int 0) k1 p1) (compEnvC scope cl C env)), (false, eval (.Constant (.int 0) k2 p2) (compEnvC scope cl C env))]) _ _ _
  refine spliced_cons (wpAny_Constant_int (spliced_cons (wpAny_Constant_int (spliced_nil ?_))))
  refine ⟨by show 2 ≤ sizeLine; decide, ?_⟩
  have k2 : ∀ b o, h.get? b = some o → (h.push { cls := .type "tuple", data := .seq #[.int 0 tk, .int 0 (tk + 1)] }).get? b = some o := fun b o e => Heap.get?_push_of_some _ e
  have g1 : Heap.IsTuple (h.push { cls := .type "tuple", data := .seq #[.int 0 tk, .int 0 (tk + 1)] }) t #[.int a ta, .int b tb] := ⟨_, k2 _ _ (hk _ _ ht), rfl, _, rfl⟩
  have g2 : Heap.IsTuple (h.push { cls := .type "tuple", data := .seq #[.int 0 tk, .int 0 (tk + 1)] }) h.objs.size #[.int 0 tk, .int 0 (tk + 1)] := ⟨_, Heap.get?_push_size _ rfl, rfl, _, rfl⟩
  refine RcNeAt.tuples (e := fun j => if j = 0 then a == 0 else b == 0) g1 g2 hu (fun j h1 h2 => ?_) prog w _ _ ?_
  · have : j = 0 ∨ j = 1 := by
      have : j < 2 := h1
      omega
    rcases this with rfl | rfl
    · exact EqAt.int_int a ta 0 tk
    · exact EqAt.int_int b tb 0 (tk + 1)
  · refine wpAny_truthy_bool ?_
    refine ⟨?_, _, _, rfl, k2⟩
    show (!((List.range 2).all (fun j => if j = 0 then a == 0 else b == 0) && true)) = _
    simp [List.range, List.range.loop]
end
end Mine
end
section
open PySem PySem.W PySem.Calls PyProof.Rows PySem.SeqAt
set_option Elab.async false
set_option maxRecDepth 100000
namespace Mine
section
variable {prog : Program} {w : World} {A : Around} {E : Value → Shared → Prop} {s : Shared} {env : Env}
theorem subscript_local {x : Str} {t : Addr} {items : Array Value} {kI : Int} {v : Value} {px pk ps : Pos} {k : Nat} {m : Str → Option Value} {Q : Value → Shared → Prop} (hkind : env.scope.kind = .function) (hxk : env.kindOf x = some .local) (hn : s.heap.Ns env.locals m) (hxm : m x = some (.ref t))
    (ht : IsTup s.heap t items) (h0 : 0 ≤ kI) (h1 : kI < items.size) (h2 : kI < 2 ^ 63) (hv : items[kI.toNat]? = some v) (dx : (x == ("__debug__" : Str)) = false) (h : Q v { s with toks := s.toks + 1 }) :
    wpAny (model prog w) A (eval (.Subscript (.Name x px) (.Constant (.int kI) k pk) ps) env) Q E s := by
  refine Subscript_Constant (wpAny_Name (wpAny_loadName_local hkind hxk hn hxm ?_) dx)
  refine wpAny_Constant_int ?_
  exact ⟨"tuple", "tuple.__getitem__", F.slot_tuple_getitem.lookup, ht.typeIs, getItem_tuple (s := { s with toks := s.toks + 1 }) ht (by omega) h2 (seqIndex_of h0 h1) hv h⟩
theorem subscript_cellT {p : Str} {c t : Addr} {oc : Obj} {items : Array Value} {kI : Int} {v : Value} {pp pk ps : Pos} {k : Nat} {Q : Value → Shared → Prop} (hkind : env.scope.kind = .function) (hpk : env.kindOf p = some .cell) (hc : env.cells.lookup p = some c) (hg : s.heap.get? c = some oc) (hd : oc.data = .cell (some (.ref t)))
    (ht : IsTup s.heap t items) (h0 : 0 ≤ kI) (h1 : kI < items.size) (h2 : kI < 2 ^ 63) (hv : items[kI.toNat]? = some v) (dp : (p == ("__debug__" : Str)) = false) (h : Q v { s with toks := s.toks + 1 }) :
    wpAny (model prog w) A (eval (.Subscript (.Name p pp) (.Constant (.int kI) k pk) ps) env) Q E s := by
  refine Subscript_Constant (wpAny_Name (wpAny_loadName_cell hkind hpk hc ⟨oc, hg, hd⟩ ?_) dp)
  refine wpAny_Constant_int ?_
  exact ⟨"tuple", "tuple.__getitem__", F.slot_tuple_getitem.lookup, ht.typeIs, getItem_tuple (s := { s with toks := s.toks + 1 }) ht (by omega) h2 (seqIndex_of h0 h1) hv h⟩
/-- way[0] * first[1] != way[1] * first[0] -/
theorem test_cross {scope : Scope} {cl : List (Str × Addr)} {x f : Str} {p1 p2 p3 p4 p5 p6 p7 p8 p9 p10 p11 p12 p13 p14 p15 : Pos} {k1 k2 k3 k4 : Nat} {s₁ : Shared} {t tf cf : Addr} {oc : Obj} {a b c d : Int} {ta tb tc td : Tok} (hkind : scope.kind = .function) (hxk : ∀ C, (compEnvC scope cl C env).kindOf x = some .local) (hfk : ∀ C, (compEnvC scope cl C env).kindOf f = some .cell) (hc : cl.lookup f = some cf) (dx : (x == ("__debug__" : Str)) = false) (df : (f == ("__debug__" : Str)) = false)
    (hm1 : IntMulOk a d) (hm2 : IntMulOk b c)
    (ht : s₁.heap.get? t = some { cls := .type "tuple", data := .seq #[.int a ta, .int b tb] })
    (hg : s₁.heap.get? cf = some oc) (hd : oc.data = .cell (some (.ref tf))) (hf : s₁.heap.get? tf = some { cls := .type "tuple", data := .seq #[.int c tc, .int d td] }) :
    TestOk prog w A env [.Compare (.BinOp (.Subscript (.Name x p1) (.Constant (.int 0) k1 p2) p3) .Mult (.Subscript (.Name f p4) (.Constant (.int 1) k2 p5) p6) p7) [.NotEq] [.BinOp (.Subscript (.Name x p8) (.Constant (.int 1) k3 p9) p10) .Mult (.Subscript (.Name f p11) (.Constant (.int 0) k4 p12) p13) p14] p15] scope cl x s₁ (.ref t) (a * d != b * c) := by
  intro C h tk m' hn hxm hk
  have g1 : IsTup h t #[.int a ta, .int b tb] := ⟨_, hk _ _ ht, rfl, _, rfl⟩
  have g2 : IsTup h tf #[.int c tc, .int d td] := ⟨_, hk _ _ hf, rfl, _, rfl⟩
  refine wpAny_tests_one ?_
  refine wpAny_isTrue_Compare1 ?_
  refine wpAny_BinOp ?_
  refine subscript_local hkind (hxk C) hn hxm g1 (by decide) (by show (_ : Int) < 2; decide) (by decide) (v := .int a ta) rfl dx ?_
  refine subscript_cellT hkind (hfk C) hc (hk _ _ hg) hd g2 (by decide) (by show (_ : Int) < 2; decide) (by decide) (v := .int d td) rfl df ?_
  refine mul_int ?_ hm1
  refine wpAny_BinOp ?_
  refine subscript_local hkind (hxk C) hn hxm g1 (by decide) (by show (_ : Int) < 2; decide) (by decide) (v := .int b tb) rfl dx ?_
  refine subscript_cellT hkind (hfk C) hc (hk _ _ hg) hd g2 (by decide) (by show (_ : Int) < 2; decide) (by decide) (v := .int c tc) rfl df ?_
  refine mul_int ?_ hm2
  refine ne_int ?_
  refine wpAny_truthy_bool ?_
  exact ⟨rfl, _, _, rfl, fun _ _ e => e⟩
end
/-- the tuples of a list, gathered -/
theorem gather {n : Nat} {zs : List Value} {G : Addr × Obj → Prop} {R : Nat → Obj → Prop} (h : ∀ i, i < n → ∃ t o, zs[i]? = some (.ref t) ∧ G (t, o) ∧ R i o) :
    ∃ tups : List (Addr × Obj), (∀ p ∈ tups, G p) ∧ ∀ i, i < n → ∃ t o, zs[i]? = some (.ref t) ∧ (t, o) ∈ tups ∧ R i o := by
  induction n with
  | zero => exact ⟨[], fun p hp => (nomatch hp), fun i hi => absurd hi (Nat.not_lt_zero _)⟩
  | succ n ih =>
    obtain ⟨tups, h1, h2⟩ := ih fun i hi => h i (Nat.lt_succ_of_lt hi)
    obtain ⟨t, o, e1, e2, e3⟩ := h n (Nat.lt_succ_self _)
    refine ⟨(t, o) :: tups, fun p hp => ?_, fun i hi => ?_⟩
    · rcases List.mem_cons.mp hp with rfl | hp
      · exact e2
      · exact h1 p hp
    · rcases Nat.lt_succ_iff_lt_or_eq.mp hi with hi | rfl
      · obtain ⟨t', o', z1, z2, z3⟩ := h2 i hi
        exact ⟨t', o', z1, .tail _ z2, z3⟩
      · exact ⟨t, o, e1, .head _, e3⟩
section
variable {M : Model} {A : Around} {E : Value → Shared → Prop} {s : Shared} {h₀ : Heap} {L : Addr} {m : Str → Option Value} {news : List (Addr × Obj)} {env : Env}
/-- a cell is given a value: what lies elsewhere stays -/
theorem store_cell_keep {x : Str} {v : Value} {v₀ : Option Value} {c : Addr} {o : Obj} {Q : Unit → Shared → Prop} (F : Fr h₀ L s.heap m) (N : News h₀ L s.heap news) (hc : env.cells.lookup x = some c) (hm : (c, o) ∈ news) (hd : o.data = .cell v₀)
    (h : ∀ h' o', Fr h₀ L h' m → (∀ ns : List (Addr × Obj), (∀ p ∈ ns, p ∈ news ∧ ∀ v, p.2.data ≠ .cell v) → News h₀ L h' ((c, o') :: ns)) → o'.data = .cell (some v) → Q () { s with heap := h' })
    (hk : env.scope.kind = .function := by rfl) (hx : env.kindOf x = some .cell := by rfl) : wpAny M A (storeName env x v) Q E s := by
  have hmem := N _ hm
  refine wpAny_storeName_cell hk hx hc ⟨o, hmem.1, hd⟩ fun h' hv hs => ?_
  obtain ⟨o', ho', hd'⟩ := hv
  refine h h' o' ⟨F.ns.sameBut hs (Ne.symm hmem.2.1), fun b ob e => (hs.2 b (fun q => ?_)).trans (F.keep b ob e), F.above⟩ (fun ns hns p hp => ?_) hd'
  · rw [q, hmem.2.2] at e; cases e
  · rcases List.mem_cons.mp hp with rfl | hp
    · exact ⟨ho', hmem.2⟩
    · obtain ⟨h1, h2⟩ := hns p hp
      refine ⟨(hs.2 p.1 fun q => ?_).trans (N p h1).1, (N p h1).2⟩
      have e1 := (N p h1).1
      rw [q, hmem.1] at e1
      obtain rfl := Option.some.inj e1
      exact h2 _ hd
end
end Mine
end
section
open PySem PySem.W PySem.Calls PyProof.Rows
set_option Elab.async false
set_option maxRecDepth 100000
set_option maxHeartbeats 8000000
namespace Mine
local macro_rules | `(tactic| k_steps) => `(tactic| repeat' ((first | (k_unfold; (try dsimp only)) | (k_end; wrow_close) | walk1 | (dsimp only; walk1) | (leave1; walk_say "STEP leave1"; try dsimp only) | fail "no step") <;> (try dsimp only)))
/-- halving while even -/
def IsOdd (n o : Int) : Prop := 1 ≤ o ∧ o.fmod 2 ≠ 0 ∧ ∃ k : Nat, n = 2 ^ k * o
def row0 (ns : List Int) : List Int := ns.map fun k' => (k' + 2 ^ Int.toNat 7).fmod (2 ^ Int.toNat 8) - 2 ^ Int.toNat 7
def rowF (ns : List Int) (o along : Int) : List Int :=
  ((row0 ns).set (Int.toNat 0) ((row0 ns).getD (Int.toNat 0) 0 - (row0 ns).sum.fmod o)).map fun k' => k' + (along + 2 ^ Int.toNat 28).fmod (2 ^ Int.toNat 29) - 2 ^ Int.toNat 28
local macro_rules | `(tactic| walk_at "exec While Compare cons nil") => `(tactic| refine Hold.out ?_)
local macro_rules | `(tactic| walk_at "And") => `(tactic| refine Hold.out ?_)
theorem law_row_spec {w : World} {p : Program} {loose : List Str} {mean : ExcName → Option Value} {mg mb : Str → Option Value} {env : Env} {base : Heap} {envs : List Env} {s : Shared} {Q E : Value → Shared → Prop} {l : Addr} {vs : List Value} {ns : List Int} {along : Int} {tk : Tok}
  (B : Below (callerA.deeper env) base envs s.heap) (X : (Mine.hd.heap_1 w.params).In s.heap) (T : Top p loose mean mg mb s.heap)
  (hl : s.heap.IsList l vs.toArray) (hi : IntsAre vs ns) (hn : 1 ≤ ns.length) (hn2 : ns.length ≤ 63)
  (h : ∀ h' tk' r ws o, (∀ b o, s.heap.get? b = some o → h'.get? b = some o) → h'.get? r = some (listOf (List.toArray ws) ws.length) → s.heap.get? r = none → IsOdd ns.length o → IntsAre ws (rowF ns o along) → Q (.ref r) {s with heap := h', toks := tk'}) :
  wpAny (model PySem.Challenge.rw_kp0009_05.row.prog w) (callerA.deeper env) (call (.ref 296) [.ref l, .int along tk]) Q E s := by
  revert X; w_top off; k_fill; intro X
  refine wpAny_call ?_
  refine enterC X T.nolimit (by k_is) (by k_is) (by k_room) (by exact BindsTo.of_eq rfl) rfl (by decide +kernel) ?_ rfl rfl rfl
  intro L' h₁ tk cells F N Y
  k_cells Y
  refine wpAny_mono (E := fun _ _ => False) ?_ (fun _ _ h => h) (fun _ _ h => h.elim)
  dsimp only
  k_steps
  refine Hold.mk ?_
  (rename Fr _ _ _ _ => F'); (rename News _ _ _ _ => N')
  refine While_name1 (x := Str.ofString "odd") (fun o => 1 ≤ o ∧ ∃ k : Nat, (ns.length : Int) = 2 ^ k * o) (fun o => o.toNat) F' N' (by rfl) ⟨by simp; omega, 0, by simp⟩ ?_
  intro a t h₂ tk₂ hI F₂ N₂
  clear F' N'
  obtain ⟨hI1, hI2⟩ := hI
  k_steps
  · refine ⟨⟨rfl, _, _, _, _, _, rfl, by assumption, rfl, (by intro y hy; simp [hy]), by assumption, ?_, ?_⟩⟩
    · rename a.fmod 2 = 0 => h2
      obtain ⟨k, hk⟩ := hI2
      have e1 : a = 2 * a.fdiv 2 := by
        have := Int.fdiv_mul_add_fmod a 2; omega
      refine ⟨by omega, k + 1, ?_⟩
      rw [hk, Int.pow_succ, Int.mul_assoc, ← e1]
    · rename a.fmod 2 = 0 => h2
      have := Int.fdiv_mul_add_fmod a 2
      show (a.fdiv 2).toNat < a.toNat
      omega
  obtain ⟨k, hk⟩ := hI2
  k_steps
  (rename Fr _ _ _ _ => F'); (rename News _ _ _ _ => N'); (rename IntsAre _ _ => hI')
  exact h _ _ _ _ a F'.keep (N'.get (.head _)) (N'.fresh (.head _)) ⟨hI1, by assumption, k, hk⟩ hI'
end Mine
end
section
open PySem PySem.W PySem.Calls PyProof.Rows PySem.Flt
set_option Elab.async false
set_option maxRecDepth 100000
set_option maxHeartbeats 8000000
namespace Mine
abbrev z3 : Tri := (Float64.zero false, Float64.zero false, Float64.zero false)
/-- what _sqrtprod makes of two floats, where no scaling is wanted -/
inductive SqRun (a b : UInt64) : UInt64 → Prop
  | zero : Float64.isFinite (Float64.sqrt (Float64.mul a b)) = true → (Float64.isNaN (Float64.sqrt (Float64.mul a b)) && !Float64.isNaN (Float64.mul a b)) = false →
      Float64.isZero (Float64.sqrt (Float64.mul a b)) = true → (Float64.isZero a = true ∨ Float64.isZero b = true) → SqRun a b (Float64.sqrt (Float64.mul a b))
  | root {r : Tri} : Float64.isFinite (Float64.sqrt (Float64.mul a b)) = true → (Float64.isNaN (Float64.sqrt (Float64.mul a b)) && !Float64.isNaN (Float64.mul a b)) = false →
      Float64.isZero (Float64.sqrt (Float64.mul a b)) = false → SpRun z3 [a, Float64.sqrt (Float64.mul a b)] [b, Float64.neg (Float64.sqrt (Float64.mul a b))] r →
      Float64.isZero (Float64.mul 0x4000000000000000 (Float64.sqrt (Float64.mul a b))) = false →
      SqRun a b (Float64.add (Float64.sqrt (Float64.mul a b)) (Float64.div (Float64.add (Float64.ofInt 0) (Builtin.Math.tlToFloat r)) (Float64.mul 0x4000000000000000 (Float64.sqrt (Float64.mul a b)))))
local macro_rules | `(tactic| k_steps) => `(tactic| repeat' ((first | (k_unfold; (try dsimp only)) | (k_end; wrow_close) | walk1 | (dsimp only; walk1) | (leave1; walk_say "STEP leave1"; try dsimp only) | fail "no step") <;> (try dsimp only)))
local macro_rules | `(tactic| walk_at "False") => `(tactic| (simp_all; done))
local macro_rules | `(tactic| walk_at "ite") => `(tactic| first | refine ite_neg (by first | (simp; done) | (simp_all; done)) ?_ | refine ite_pos (by first | (simp; done) | (simp_all; done)) ?_)
local macro_rules | `(tactic| walk_at "call builtin:math.sumprod") => `(tactic| (k_here; k_dflt (refine' sumprod_K ?F ?N rfl ?a ?b ?x ?y ?n ?u ?_; (case F => k_asm); (case N => k_asm); (case a => first | exact .inl (News.isList (by k_asm) (by k_mem)) | exact .inr (News.isTup (by k_asm) (by k_mem))); (case b => first | exact .inl (News.isList (by k_asm) (by k_mem)) | exact .inr (News.isTup (by k_asm) (by k_mem))); (case x => exact .cons _ _ (.cons _ _ .nil)); (case y => exact .cons _ _ (.cons _ _ .nil)); (case n => exact List.cons_ne_nil _ _); (case u => assumption)); intro h' tk' t' F' N'))
theorem sqrtprod_spec {w : World} {p : Program} {loose : List Str} {mean : ExcName → Option Value} {mg mb : Str → Option Value} {env env' : Env} {s : Shared} {Q E : Value → Shared → Prop} {a b o : UInt64} {ta tb : Tok}
  (X : (Mine.hd.heap_1 w.params).In s.heap) (T : Top p loose mean mg mb s.heap) (hrun : SqRun a b o)
  (h : ∀ h' tk' t, (∀ b o, s.heap.get? b = some o → h'.get? b = some o) → Q (.float o t) {s with heap := h', toks := tk'}) :
  wpAny (model PySem.Challenge.rw_kp0009_05.row.prog w) ((callerA.deeper env).deeper env') (call (.ref 285) [.float a ta, .float b tb]) Q E s := by
  revert X; w_top off; k_fill; intro X
  refine wpAny_call ?_
  refine enterP X T.nolimit (by k_is) (by k_is) (by k_room) (by exact BindsTo.of_eq rfl) (locs rfl) ?_ (by decide) rfl rfl rfl
  intro L' h₁ F N
  refine wpAny_mono (E := fun _ _ => False) ?_ (fun _ _ h => h) (fun _ _ h => h.elim)
  dsimp only
  cases hrun with
  | zero h1 h2 h3 h4 =>
    k_steps
    all_goals ((rename Fr _ _ _ _ => F'); exact h _ _ _ F'.keep)
  | root h1 h2 h3 h4 h5 =>
    k_steps
    all_goals ((rename Fr _ _ _ _ => F'); exact h _ _ _ F'.keep)
end Mine
end
section
open PySem PySem.W PySem.Calls PyProof.Rows PySem.Flt
set_option Elab.async false
set_option maxRecDepth 100000
set_option maxHeartbeats 8000000
namespace Mine
local macro_rules | `(tactic| k_steps) => `(tactic| repeat' ((first | (k_unfold; (try dsimp only)) | (k_end; wrow_close) | walk1 | (dsimp only; walk1) | (leave1; walk_say "STEP leave1"; try dsimp only) | fail "no step") <;> (try dsimp only)))
local macro_rules | `(tactic| walk_at "call builtin:len") => `(tactic| (k_here; k_dflt (refine' len_K ?l ?n ?b ?_; (case l => exact stays_list (Fr.keep (by k_asm)) (by assumption)); (case n => assumption); (case b => omega))))
local macro_rules | `(tactic| walk_at "call builtin:math.fsum") => `(tactic| (k_here; k_dflt (refine' fsum_K ?F ?N rfl ?l ?r ?u ?_; (case F => k_asm); (case N => k_asm); (case l => exact stays_list (Fr.keep (by k_asm)) (by assumption)); (case r => assumption); (case u => assumption)); intro h' tk' t' F' N'))
local macro_rules | `(tactic| walk_at "call builtin:math.sumprod") => `(tactic| (k_here; k_dflt (refine' sumprod_K ?F ?N rfl ?a ?b ?x ?y ?n ?u ?_; (case F => k_asm); (case N => k_asm); (case a => first | exact .inl (News.isList (by k_asm) (by k_mem)) | exact .inr (News.isTup (by k_asm) (by k_mem))); (case b => first | exact .inl (News.isList (by k_asm) (by k_mem)) | exact .inr (News.isTup (by k_asm) (by k_mem))); (case x => assumption); (case y => assumption); (case n => assumption); (case u => assumption)); intro h' tk' t' F' N'))
local macro_rules | `(tactic| walk_at "call ref") => `(tactic| (k_here; (rename Fr _ _ _ _ => lF'); (rename News _ _ _ _ => lN'); refine sqrtprod_spec (Frag.In.keeps (by assumption) lF'.keep) (Top.keeps (by assumption) lF'.keep) (by assumption) ?_; intro h' tk' t' k'; (have F' := Fr.keeps lF' k'); (have N' := News.grown lN' k'); clear lF' lN' k'))
local macro_rules | `(tactic| walk_at "exec Try") => `(tactic| refine wpAny_Try_except ?_)
local macro_rules | `(tactic| walk_at "exec Assign cons ListComp") => `(tactic| refine Hold.out ?_)
local macro_rules | `(tactic| walk_at "ite") => `(tactic| first | refine ite_neg (by first | omega | (simp; done) | (simp; omega)) ?_ | refine ite_pos (by first | omega | (simp; done) | (simp; omega)) ?_)
theorem corr_any {w : World} {p : Program} {loose : List Str} {mean : ExcName → Option Value} {mg mb : Str → Option Value} {env : Env} {base : Heap} {envs : List Env} {s : Shared} {Q E : Value → Shared → Prop} {l l₂ : Addr} {vs vs₂ : List Value} {n : Nat} {xs ys : List UInt64} {fx fy : UInt64}
  (B : Below (callerA.deeper env) base envs s.heap) (X : (Mine.hd.heap_1 w.params).In s.heap) (T : Top p loose mean mg mb s.heap)
  (hl : s.heap.IsList l vs.toArray) (hz : vs.toArray.size = n) (hl2 : s.heap.IsList l₂ vs₂.toArray) (hz2 : vs₂.toArray.size = n) (hn1 : 2 ≤ n) (hn2 : n ≤ 63)
  (hr : RealsAre vs.toArray.toList xs) (hr2 : RealsAre vs₂.toArray.toList ys) (hf : FsRun [] xs fx) (hf2 : FsRun [] ys fy) {rxy rxx ryy : Tri}
  (hne1 : (xs.map fun f => Float64.sub f (Float64.div fx (Float64.ofInt n))) ≠ []) (hne2 : (ys.map fun f => Float64.sub f (Float64.div fy (Float64.ofInt n))) ≠ [])
  (hxy : SpRun (Float64.zero false, Float64.zero false, Float64.zero false) (xs.map fun f => Float64.sub f (Float64.div fx (Float64.ofInt n))) (ys.map fun f => Float64.sub f (Float64.div fy (Float64.ofInt n))) rxy)
  (hxx : SpRun (Float64.zero false, Float64.zero false, Float64.zero false) (xs.map fun f => Float64.sub f (Float64.div fx (Float64.ofInt n))) (xs.map fun f => Float64.sub f (Float64.div fx (Float64.ofInt n))) rxx)
  (hyy : SpRun (Float64.zero false, Float64.zero false, Float64.zero false) (ys.map fun f => Float64.sub f (Float64.div fy (Float64.ofInt n))) (ys.map fun f => Float64.sub f (Float64.div fy (Float64.ofInt n))) ryy)
  {so : UInt64} (hsq : SqRun (Float64.add (Float64.ofInt 0) (Builtin.Math.tlToFloat rxx)) (Float64.add (Float64.ofInt 0) (Builtin.Math.tlToFloat ryy)) so)
  (XB : (Mine.hd.heap_1 w.params).In base) (TB : Top p loose mean mg mb base)
  (h : Float64.isZero so = false → ∀ h' tk' t, (∀ b o, s.heap.get? b = some o → h'.get? b = some o) → Q (.float (Float64.div (Float64.add (Float64.ofInt 0) (Builtin.Math.tlToFloat rxy)) so) t) {s with heap := h', toks := tk'})
  (hE : Float64.isZero so = true → ∀ h' e' t tk tk', Heap.FlyingW (hideAll s.heap (envs.filterMap (·.frame))) envs e' (.ref 59) (.ref t) h' → h'.TupAt t [.str ("at least one of the inputs is constant" : Str) tk] → (hideAll s.heap (envs.filterMap (·.frame))).get? t = none → s.heap.UpToSlots h' → E (.ref e') { s with heap := h', toks := tk' }) :
  wpAny (model PySem.Challenge.rw_kp0009_05.row.prog w) (callerA.deeper env) (call (.ref 291) [.ref l, .ref l₂]) Q E s := by
  revert X; w_top off; k_fill; intro X
  refine wpAny_call ?_
  refine enterC X T.nolimit (by k_is) (by k_is) (by k_room) (by exact kp_binds X (fun _ => rfl)) rfl (by decide +kernel) ?_ rfl rfl rfl
  intro L' h₁ tk cells F N Y
  k_cells Y
  dsimp only
  k_steps
  refine Hold.mk ?_
  (rename Fr _ _ _ _ => F'); (rename News _ _ _ _ => N')
  refine Assign_list (h₀ := s.heap) (L := L') (Fv := fun v y => ∃ f t, RealIs v f ∧ y = .float (Float64.sub f (Float64.div fx (Float64.ofInt n))) t) rfl rfl (by with_unfolding_all rfl) (by with_unfolding_all rfl) (by decide) rfl (by decide) rfl rfl rfl ?_
  refine nameX_L F' (by rfl) ?_
  refine ⟨l, vs.toArray, _, _, rfl, F', N', stays_list F'.keep hl, by rw [hz]; exact Nat.le_trans hn2 (by decide), ?_, ?_⟩
  · intro i v hv
    obtain ⟨f, hf, hR⟩ := hr.at i v (by simpa using hv)
    intro C h tk m' q1 q2 q3
    refine wpAny_mono (el_sub (bar := Float64.div fx (Float64.ofInt n)) rfl (fun _ => rfl) (fun _ => rfl) (by rfl) (N'.get (by k_mem)) (by assumption) hR (by decide) (by decide) C h tk m' q1 q2 q3) (fun y s6 z => ⟨z.1, f, z.2.choose, hR, z.2.choose_spec⟩) fun _ _ z => z
  intro D h2 tk2 zs F2 N2 hp
  have hzs : FloatsAre zs (xs.map fun f => Float64.sub f (Float64.div fx (Float64.ofInt n))) := by
    refine FloatsAre.of_paired _ hp (fun i v y hv hF => ?_) (by rw [List.length_map]; exact hr.length)
    obtain ⟨f, t, hR, rfl⟩ := hF
    obtain ⟨f', hf', hR'⟩ := hr.at i v hv
    cases RealIs.inj hR hR'
    exact ⟨_, t, by rw [List.getElem?_map, hf']; rfl, rfl⟩
  clear hp F' N'
  dsimp only
  k_steps
  refine Hold.mk ?_
  (rename Fr _ _ _ _ => F'); (rename News _ _ _ _ => N')
  refine Assign_list (h₀ := s.heap) (L := L') (Fv := fun v y => ∃ f t, RealIs v f ∧ y = .float (Float64.sub f (Float64.div fy (Float64.ofInt n))) t) rfl rfl (by with_unfolding_all rfl) (by with_unfolding_all rfl) (by decide) rfl (by decide) rfl rfl rfl ?_
  refine nameX_L F' (by rfl) ?_
  refine ⟨l₂, vs₂.toArray, _, _, rfl, F', N', stays_list F'.keep hl2, by rw [hz2]; exact Nat.le_trans hn2 (by decide), ?_, ?_⟩
  · intro i v hv
    obtain ⟨f, hf, hR⟩ := hr2.at i v (by simpa using hv)
    intro C h tk m' q1 q2 q3
    refine wpAny_mono (el_sub (bar := Float64.div fy (Float64.ofInt n)) rfl (fun _ => rfl) (fun _ => rfl) (by rfl) (N'.get (by k_mem)) (by assumption) hR (by decide) (by decide) C h tk m' q1 q2 q3) (fun y s6 z => ⟨z.1, f, z.2.choose, hR, z.2.choose_spec⟩) fun _ _ z => z
  intro D3 h3 tk3 zs3 F3 N3 hp
  have hzs3 : FloatsAre zs3 (ys.map fun f => Float64.sub f (Float64.div fy (Float64.ofInt n))) := by
    refine FloatsAre.of_paired _ hp (fun i v y hv hF => ?_) (by rw [List.length_map]; exact hr2.length)
    obtain ⟨f, t, hR, rfl⟩ := hF
    obtain ⟨f', hf', hR'⟩ := hr2.at i v hv
    cases RealIs.inj hR hR'
    exact ⟨_, t, by rw [List.getElem?_map, hf']; rfl, rfl⟩
  clear hp F' N'
  dsimp only
  k_steps
  · (rename Fr _ _ _ _ => F'); (rename Heap.NewExc _ _ _ _ => hx')
    refine reraise (base := base) (mg := mg) (mb := mb) (X := "ZeroDivisionError") (x := "ZeroDivisionError") (y := "StatisticsError") (C := 59) B F' hx' rfl rfl rfl rfl TB.g TB.b (ns_none_of XB TB.g (by k_is)) ((TB.builtins _ (by decide)).trans PyProof.Rows.Boot.«ZeroDivisionError») rfl rfl (by decide) (by decide)
      PySem.F.isExc_ZeroDivisionError PySem.F.notTuple_ZeroDivisionError (by rw [isSubtype_type]; kernel_rfl) (own_of_in XB (topRead_of TB) (by k_is) (by k_exc)) PySem.F.excBase_ValueError ?_
    intro h' e' t tk tk' f1 f2 f3 f4
    exact hE (by assumption) h' e' t tk tk' f1 f2 f3 f4
  · (rename Fr _ _ _ _ => F')
    exact h (Bool.eq_false_iff.mpr (by assumption)) _ _ _ F'.keep
end Mine
end
section
open PySem PySem.W PySem.Calls PyProof.Rows
set_option Elab.async false
set_option maxRecDepth 100000
set_option maxHeartbeats 8000000
namespace Mine
local macro_rules | `(tactic| walk_at "pad L5joint 0") => `(tactic| fail)
local macro_rules | `(tactic| k_steps) => `(tactic| repeat' ((first | (k_unfold; (try dsimp only)) | (k_end; wrow_close) | walk1 | (dsimp only; walk1) | (leave1; walk_say "STEP leave1"; try dsimp only) | fail "no step") <;> (try dsimp only)))
local macro_rules | `(tactic| walk_at "call builtin:len") => `(tactic| (k_here; k_dflt (refine' len_K ?l ?n ?b ?_; (case l => exact stays_list (Fr.keep (by k_asm)) (by assumption)); (case n => exact List.size_toArray _); (case b => omega))))
local macro_rules | `(tactic| walk_at "eval ListComp BinOp cons") => `(tactic| refine Hold.out ?_)
local macro_rules | `(tactic| walk_at "call type:zip") => `(tactic| refine Hold.out ?_)
theorem IntsAre.of_range {f : Nat → Int} : ∀ {l : List Nat} {zs : List Value}, Paired (fun i y => ∃ t, y = Value.int (f i) t) l zs → IntsAre zs (l.map f)
  | _, _, .nil => .nil
  | _, _, .cons h ht => by obtain ⟨t, rfl⟩ := h; exact .cons _ t (IntsAre.of_range ht)
theorem zip_map_range (ns ms : List Int) (n : Nat) (hn : n = min ns.length ms.length) : (List.range n).map (fun i => ns.getD i 0 * ms.getD i 0) = (ns.zip ms).map fun p => p.1 * p.2 := by
  subst hn
  apply List.ext_getElem
  · simp
  · intro i h1 h2
    simp only [List.length_map, List.length_range, List.length_zip] at h1 h2
    have a1 : i < ns.length := by omega
    have a2 : i < ms.length := by omega
    simp [a1, a2]
theorem getD_bound {ns : List Int} {b : Int} (hb : ∀ x ∈ ns, -b ≤ x ∧ x ≤ b) (h0 : 0 ≤ b) (i : Nat) : -b ≤ ns.getD i 0 ∧ ns.getD i 0 ≤ b := by
  rw [List.getD_eq_getElem?_getD]
  cases q : ns[i]? with
  | none => simp; omega
  | some v => exact hb v (List.mem_of_getElem? q)
theorem sum_bound {b : Int} (h0 : 0 ≤ b) : ∀ {ns : List Int}, (∀ x ∈ ns, -b ≤ x ∧ x ≤ b) → -(ns.length * b) ≤ ns.sum ∧ ns.sum ≤ ns.length * b
  | [], _ => by simp
  | a :: l, h => by
    have h1 := h a (.head _)
    have h2 := sum_bound h0 (ns := l) fun x hx => h x (.tail _ hx)
    simp only [List.sum_cons, List.length_cons, Int.natCast_add, Int.add_mul]
    have e : ((1 : Nat) : Int) * b = b := by simp
    omega
theorem sum_bound63 {ns : List Int} (h : ∀ x ∈ ns, -2 ^ 30 ≤ x ∧ x ≤ 2 ^ 30) (hn : ns.length ≤ 63) : -67645734912 ≤ ns.sum ∧ ns.sum ≤ 67645734912 := by
  have h2 := sum_bound (b := 2 ^ 30) (by decide) h
  omega
theorem law_joint_spec {w : World} {p : Program} {loose : List Str} {mean : ExcName → Option Value} {mg mb : Str → Option Value} {env : Env} {base : Heap} {envs : List Env} {s : Shared} {Q E : Value → Shared → Prop} {l l₂ : Addr} {vs vs₂ : List Value} {ns ms : List Int}
  (B : Below (callerA.deeper env) base envs s.heap) (X : (Mine.hd.heap_1 w.params).In s.heap) (T : Top p loose mean mg mb s.heap)
  (hl : s.heap.IsList l vs.toArray) (hi : IntsAre vs ns) (hl2 : s.heap.IsList l₂ vs₂.toArray) (hi2 : IntsAre vs₂ ms) (hlen : ns.length = ms.length) (hn2 : ns.length ≤ 63) (hb1 : ∀ x ∈ ns, -2 ^ 30 ≤ x ∧ x ≤ 2 ^ 30) (hb2 : ∀ x ∈ ms, -2 ^ 30 ≤ x ∧ x ≤ 2 ^ 30)
  (h : ∀ h' tk' t, (∀ b o, s.heap.get? b = some o → h'.get? b = some o) → Q (.int ((ns.length : Int) * ((ns.zip ms).map fun p => p.1 * p.2).sum - ns.sum * ms.sum) t) {s with heap := h', toks := tk'}) :
  wpAny (model PySem.Challenge.rw_kp0009_05.row.prog w) (callerA.deeper env) (call (.ref 301) [.ref l, .ref l₂]) Q E s := by
  revert X; w_top off; k_fill; intro X
  refine wpAny_call ?_
  refine enterP X T.nolimit (by k_is) (by k_is) (by k_room) (by exact BindsTo.of_eq rfl) (locs rfl) ?_ (by decide) rfl rfl rfl
  intro L' h₁ F N
  refine wpAny_mono (E := fun _ _ => False) ?_ (fun _ _ h => h) (fun _ _ h => h.elim)
  dsimp only
  k_steps
  refine Hold.mk ?_
  (rename Fr _ _ _ _ => F'); (rename News _ _ _ _ => N')
  refine ListComp_zip (h₀ := s.heap) (L := L') (Fv := fun v v₂ _ y _ => ∀ a ta b tb, v = .int a ta → v₂ = .int b tb → ∃ t, y = .int (a * b) t) (F := fun _ i y _ => ∃ t, y = .int (ns.getD i 0 * ms.getD i 0) t)
    rfl (by with_unfolding_all rfl) (by with_unfolding_all decide) rfl (by with_unfolding_all decide) (by with_unfolding_all rfl) (by with_unfolding_all rfl) (by decide) (fun _ _ _ _ _ _ q => q) ?_
  k_steps
  refine Hold.mk ?_
  (rename Fr _ _ _ _ => F''); (rename News _ _ _ _ => N'')
  have hl1' := stays_list F''.keep hl
  have hl2' := stays_list F''.keep hl2
  refine call_zip_2 hl1' hl2' fun h' hz hTI hTO hi1 hi2' hsz hk => ?_
  refine ⟨_, _, _, _, _, _, _, _, _, _, _, _, rfl, zipApart_new (by obtain ⟨_, e, _⟩ := hl1'; exact Heap.lt_size e) (by obtain ⟨_, e, _⟩ := hl2'; exact Heap.lt_size e), ⟨hz, hTI, ⟨_, _, hTO⟩, hi1, hi2', hl1'.at fun o e => hk _ o e, hl2'.at fun o e => hk _ o e⟩, hk,
    ⟨Heap.get?_none_of_le (by omega), Heap.get?_none_of_le (by omega), Heap.get?_none_of_le (by omega), Heap.get?_none_of_le (by omega)⟩, F'', N'', ?_, ?_, ?_, ?_⟩
  · have := hi.length; simp only [List.size_toArray]; exact Nat.le_trans (Nat.min_le_left ..) (by rw [this]; exact Nat.le_trans hn2 (by decide))
  · intro i v v₂ hv hv₂ C h tk m' hn hxm hx2m hkk
    obtain ⟨ta, a1⟩ := hi.get i (ns.getD i 0) (by have := hi.length; have := (List.getElem?_eq_some_iff.mp (show vs[i]? = some v by simpa using hv)).1; rw [List.getD_eq_getElem?_getD, List.getElem?_eq_getElem (by omega)]; rfl)
    obtain ⟨tb, a2⟩ := hi2.get i (ms.getD i 0) (by have := hi2.length; have := (List.getElem?_eq_some_iff.mp (show vs₂[i]? = some v₂ by simpa using hv₂)).1; rw [List.getD_eq_getElem?_getD, List.getElem?_eq_getElem (by omega)]; rfl)
    rw [show vs[i]? = some v by simpa using hv] at a1
    rw [show vs₂[i]? = some v₂ by simpa using hv₂] at a2
    obtain rfl := Option.some.inj a1
    obtain rfl := Option.some.inj a2
    refine wpAny_BinOp (wpAny_Name (wpAny_loadName_local rfl rfl hn hxm ?_) (by decide))
    refine wpAny_Name (wpAny_loadName_local rfl rfl hn hx2m ?_) (by decide)
    have b1 := getD_bound hb1 (by decide) i
    have b2 := getD_bound hb2 (by decide) i
    refine mul_int ?_
    refine ⟨⟨_, _, rfl, fun _ _ e => e⟩, ?_⟩
    intro a ta' b tb' e1 e2
    cases e1; cases e2
    exact ⟨_, rfl⟩
  · intro i v v₂ hide h y h6 hv hv₂ _ _ hF
    obtain ⟨ta, a1⟩ := hi.get i (ns.getD i 0) (by have := hi.length; have := (List.getElem?_eq_some_iff.mp (show vs[i]? = some v by simpa using hv)).1; rw [List.getD_eq_getElem?_getD, List.getElem?_eq_getElem (by omega)]; rfl)
    obtain ⟨tb, a2⟩ := hi2.get i (ms.getD i 0) (by have := hi2.length; have := (List.getElem?_eq_some_iff.mp (show vs₂[i]? = some v₂ by simpa using hv₂)).1; rw [List.getD_eq_getElem?_getD, List.getElem?_eq_getElem (by omega)]; rfl)
    rw [show vs[i]? = some v by simpa using hv] at a1
    rw [show vs₂[i]? = some v₂ by simpa using hv₂] at a2
    exact hF _ _ _ _ (Option.some.inj a1) (Option.some.inj a2)
  intro D h2 tk2 zs F2 N2 _ _ hpz
  obtain ⟨_, _, _, hpz⟩ := hpz
  have hzs := IntsAre.of_range (f := fun i => ns.getD i 0 * ms.getD i 0) hpz
  rw [zip_map_range _ _ _ (by simp [hi.length, hi2.length])] at hzs
  clear hz hTI hTO hi1 hi2' hsz hk hl1' hl2' F'' N'' hpz
  have sb1 := sum_bound63 hb1 hn2
  have sb2 := sum_bound63 hb2 (hlen ▸ hn2)
  obtain ⟨sb1, sb1'⟩ := sb1
  obtain ⟨sb2, sb2'⟩ := sb2
  dsimp only
  k_steps
  (rename Fr _ _ _ _ => F')
  exact h _ _ _ F'.keep
end Mine
end
section
open PySem PySem.W PySem.Calls PyProof.Rows PySem.Flt
set_option Elab.async false
set_option maxRecDepth 100000
set_option maxHeartbeats 8000000
namespace Mine
section
variable {prog : Program} {w : World} {A : Around} {E : Value → Shared → Prop} {s : Shared} {h₀ H : Heap} {tk : Nat} {L l : Addr} {m : Str → Option Value} {news : List (Addr × Obj)} {vs : List Value} {ns : List Int} {vl vu : Value} {lo hi : Option Int} {Q : Value → Shared → Prop} {value slice : PySem.Expr}
theorem slice_intsX {ms : List Int} {c : Nat} (F : Fr h₀ L H m) (N : News h₀ L H news) (hl : H.IsList l vs.toArray) (pl : IsPart vl lo) (pu : IsPart vu hi) (hi' : IntsAre vs ns) (hm : IntsAre (slicePick vs.toArray lo hi none).toList ms) (hc : ms.length = c)
    (h : ∀ D ws h', Fr h₀ L h' m → News h₀ L h' ((D, listOf (List.toArray ws) 0) :: news) → (∀ p ∈ news, p.1 < D) → IntsAre ws ms → ms.length = c → ms.length ≤ ns.length → Q (.ref D) { s with heap := h', toks := tk })
    (hs : subscripted slice false (.ref l) (.ref H.objs.size) = operate [.ref H.objs.size, .ref l] (getItem (.ref l) (.ref H.objs.size))) (ht : ∀ r, letTemporaryGo value (.ref l) r = pure ()) (hz : vs.toArray.size ≤ sizeLine) :
    wpAny (model prog w) A (subscriptTail value slice (.ref l) (.ref H.objs.size)) Q E { s with heap := H.push { cls := .type "slice", data := .fields #[vl, vu, .none] }, toks := tk } :=
  kmk_slice_ints (s := { s with heap := H, toks := tk }) F N hl pl pu hi' hm hc h hs ht hz
end
section
variable {prog : Program} {w : World} {A : Around} {E : Value → Shared → Prop} {s : Shared}
theorem floordiv_two {n : Nat} {t u : Tok} {Q : Value → Shared → Prop} (h : Q (.int ((n / 2 : Nat) : Int) s.toks) { s with toks := s.toks + 1 }) : wpAny (model prog w) A (binaryOp .FloorDiv (.int n t) (.int 2 u)) Q E s := by
  refine floordiv_int (by decide) ?_ (Or.inl (PyProof.noPylong_small (by decide)))
  rw [Int.fdiv_eq_ediv_of_nonneg _ (by decide)]
  exact h
end
def numsOf5 (ns : List Int) : List Int := if ((ns.drop 2).take (min 63 ns.length - 2)).length < 4 then (ns.drop 2).take (min 63 ns.length - 2) ++ [3, -1, -2, 4] else (ns.drop 2).take (min 63 ns.length - 2)
section
variable {prog : Program} {w : World} {A : Around} {E : Value → Shared → Prop} {s : Shared} {H h₀ : Heap} {tk₀ : Nat} {L : Addr} {m : Str → Option Value} {news : List (Addr × Obj)} {Q : Flow → Shared → Prop}
def JoinL (h₀ : Heap) (L : Addr) (m : Str → Option Value) (news : List (Addr × Obj)) (x : Str) (nums : List Int) (s s' : Shared) : Prop :=
  ∃ h' tk D ws, s' = { s with heap := h', toks := tk } ∧ Fr h₀ L h' (fun y => if y = x then some (.ref D) else m y) ∧ News h₀ L h' ((D, listOf (List.toArray ws) 0) :: news) ∧ IntsAre ws nums
theorem join_list {t : Sem Flow} (x : Str) (nums : List Int) (F : Fr h₀ L H m) (N : News h₀ L H news)
    (h1 : wpAny (model prog w) A t (fun fl s' => fl = .next ∧ JoinL h₀ L m news x nums s s') E { s with heap := H, toks := tk₀ })
    (h2 : ∀ h' tk D ws, Fr h₀ L h' (fun y => if y = x then some (.ref D) else m y) → News h₀ L h' ((D, listOf (List.toArray ws) 0) :: news) → IntsAre ws nums → Q .next { s with heap := h', toks := tk }) :
    wpAny (model prog w) A t Q E { s with heap := H, toks := tk₀ } := by
  refine wpAny_mono h1 (fun fl s' hj => ?_) fun _ _ x => x
  obtain ⟨rfl, h', tk, D, ws, rfl, F', N', hI⟩ := hj
  exact h2 h' tk D ws F' N' hI
end
theorem numsOf5_length {ns : List Int} (h : ns.length ≤ 63) : 4 ≤ (numsOf5 ns).length ∧ (numsOf5 ns).length ≤ 61 := by
  unfold numsOf5
  split <;> simp at * <;> omega
theorem Fr_same {h₀ h : Heap} {L : Addr} {m : Str → Option Value} {x : Str} {v : Value} (F : Fr h₀ L h m) (e : m x = some v) : Fr h₀ L h (fun y => if y = x then some v else m y) := by
  have : (fun y => if y = x then some v else m y) = m := by
    funext y
    by_cases q : y = x
    · simp [q, e]
    · simp [q]
  rw [this]; exact F
theorem News.apart {h₀ h : Heap} {L D : Addr} {news : List (Addr × Obj)} (N : News h₀ L h news) (hn : h.get? D = none) : ∀ p ∈ news, (@Ne Nat D p.1) := fun p hp q => by
  have := (N p hp).1
  rw [← show D = p.1 from q, hn] at this
  cases this
theorem News.apart_cell {h₀ h : Heap} {L a c : Addr} {news : List (Addr × Obj)} {items : Array Value} {n : Nat} {o : Obj} {v : Option Value} (N : News h₀ L h news) (h1 : (a, listOf items n) ∈ news) (h2 : (c, o) ∈ news) (hd : o.data = .cell v) : (@Ne Nat a c) := fun q => by
  have e1 := (N _ h1).1
  have e2 := (N _ h2).1
  rw [show a = c from q, e2] at e1
  cases e1
  cases hd
def Row5 (n : Nat) (P : List Int) : Prop := ∃ zs o along, zs.length = n ∧ IsOdd n o ∧ P = rowF zs o along
theorem Row5.length {n : Nat} {P : List Int} (h : Row5 n P) : P.length = n := by
  obtain ⟨zs, o, along, h1, _, rfl⟩ := h
  simp [rowF, row0, h1]
theorem News.cut9 {h₀ h : Heap} {L : Addr} {a b c d e f g i j : Addr × Obj} {rest : List (Addr × Obj)} (N : News h₀ L h (a :: b :: c :: d :: e :: f :: g :: i :: j :: rest)) : News h₀ L h (a :: c :: rest) := fun p hp => by
  rcases List.mem_cons.mp hp with rfl | hp
  · exact N p (.head _)
  · rcases List.mem_cons.mp hp with rfl | hp
    · exact N p (.tail _ (.tail _ (.head _)))
    · exact N p (.tail _ (.tail _ (.tail _ (.tail _ (.tail _ (.tail _ (.tail _ (.tail _ (.tail _ hp)))))))))
def SameAll (P : List Int) : Prop := ∀ a ∈ P, ∀ b ∈ P, a = b
def decSame (P : List Int) : Decidable (SameAll P) := by unfold SameAll; infer_instance
def flatB (P Q : List Int) : Bool := @decide (SameAll P) (decSame P) || @decide (SameAll Q) (decSame Q)
theorem min_eq_max {P : List Int} {a b : Int} (h1 : a ∈ P) (h2 : ∀ x, x ∈ P → a ≤ x) (h3 : b ∈ P) (h4 : ∀ x, x ∈ P → x ≤ b) : (a == b) = @decide (SameAll P) (decSame P) := by
  rw [Bool.eq_iff_iff]
  simp only [beq_iff_eq, decide_eq_true_eq]
  constructor
  · intro e x hx y hy
    have := h2 x hx; have := h4 x hx; have := h2 y hy; have := h4 y hy
    omega
  · intro h
    exact h a h1 b h3
theorem flat_one {P Q : List Int} {a b : Int} (e : a = b) (h1 : a ∈ P) (h2 : ∀ x, x ∈ P → a ≤ x) (h3 : b ∈ P) (h4 : ∀ x, x ∈ P → x ≤ b) : (a == b) = flatB P Q := by
  have := min_eq_max h1 h2 h3 h4
  unfold flatB
  rw [← this, e]; simp
theorem flat_two {P Q : List Int} {a b c d : Int} (e : a ≠ b) (h1 : a ∈ P) (h2 : ∀ x, x ∈ P → a ≤ x) (h3 : b ∈ P) (h4 : ∀ x, x ∈ P → x ≤ b) (g1 : c ∈ Q) (g2 : ∀ x, x ∈ Q → c ≤ x) (g3 : d ∈ Q) (g4 : ∀ x, x ∈ Q → x ≤ d) : (c == d) = flatB P Q := by
  have := min_eq_max h1 h2 h3 h4
  unfold flatB
  rw [← this, ← min_eq_max g1 g2 g3 g4]
  simp [e]
theorem Fr_cong {h₀ h : Heap} {L : Addr} {m : Str → Option Value} {x : Str} {b c : Bool} (F : Fr h₀ L h (fun y => if y = x then some (.bool b) else m y)) (e : b = c) : Fr h₀ L h (fun y => if y = x then some (.bool c) else m y) := e ▸ F
section
variable {prog : Program} {w : World} {A : Around} {E : Value → Shared → Prop} {s : Shared} {H h₀ : Heap} {tk₀ : Nat} {L : Addr} {m : Str → Option Value} {news : List (Addr × Obj)} {Q : Flow → Shared → Prop}
def JoinV (h₀ : Heap) (L : Addr) (m : Str → Option Value) (news : List (Addr × Obj)) (x : Str) (v : Value) (s s' : Shared) : Prop :=
  ∃ h' tk, s' = { s with heap := h', toks := tk } ∧ Fr h₀ L h' (fun y => if y = x then some v else m y) ∧ News h₀ L h' news
theorem join_val {t : Sem Flow} (x : Str) (v : Value) (F : Fr h₀ L H m) (N : News h₀ L H news)
    (h1 : wpAny (model prog w) A t (fun fl s' => fl = .next ∧ JoinV h₀ L m news x v s s') E { s with heap := H, toks := tk₀ })
    (h2 : ∀ h' tk, Fr h₀ L h' (fun y => if y = x then some v else m y) → News h₀ L h' news → Q .next { s with heap := h', toks := tk }) :
    wpAny (model prog w) A t Q E { s with heap := H, toks := tk₀ } := by
  refine wpAny_mono h1 (fun fl s' hj => ?_) fun _ _ x => x
  obtain ⟨rfl, h', tk, rfl, F', N'⟩ := hj
  exact h2 h' tk F' N'
end
end Mine
end
section
open PySem PySem.Float64
set_option Elab.async false
set_option maxRecDepth 100000
set_option exponentiation.threshold 3000
namespace Mine
def IsF (x : UInt64) : Prop := ∃ a m e, decode x = .fin a m e
theorem IsF.finite {x : UInt64} (h : IsF x) : isFinite x = true := by
  obtain ⟨a, m, e, h⟩ := h
  unfold isFinite; rw [h]
theorem IsF.notNaN {x : UInt64} (h : IsF x) : isNaN x = false := by
  obtain ⟨a, m, e, h⟩ := h
  unfold isNaN; rw [h]
theorem IsF.zero_iff {x : UInt64} (h : IsF x) : isZero x = true ↔ val x = 0 := by
  obtain ⟨a, m, e, h⟩ := h
  have h1 := val_natAbs h
  unfold isZero
  rw [h]
  cases m with
  | zero => simp only [true_iff]; rw [Nat.zero_mul] at h1; omega
  | succ m =>
    constructor
    · intro q; simp at q
    · intro q
      rw [q] at h1
      have := Nat.mul_pos (Nat.succ_pos m) (Nat.two_pow_pos (e + 1074).toNat)
      rw [Int.natAbs_zero] at h1
      exact absurd h1 (Nat.ne_of_lt this)
theorem IsF.zero_false {x : UInt64} (h : IsF x) (h1 : val x ≠ 0) : isZero x = false := by
  cases q : isZero x with
  | false => rfl
  | true => exact absurd (h.zero_iff.mp q) h1
theorem sgn_self (z : Int) : sgn (decide (z < 0)) z.natAbs = z := by
  unfold sgn
  by_cases h : z < 0
  · simp [h]; omega
  · simp [h]; omega
theorem isF_zero (b : Bool) : IsF (zero b) ∧ val (zero b) = 0 := by
  have h : (0 : Nat) < infMag := by unfold infMag; decide
  refine ⟨?_, ?_⟩
  · obtain ⟨m, e, h1, _⟩ := decode_pack b h
    exact ⟨b, m, e, h1⟩
  · unfold zero
    rw [val_pack b h, V_zero]; unfold sgn; cases b <;> rfl
theorem rep (c : Nat) : ∀ q, q ≤ 2 ^ 53 → ∃ t, V t = q * 2 ^ c := by
  induction c with
  | zero => intro q hq; exact ⟨0 * 2 ^ 52 + q, V_at hq (.inr rfl)⟩
  | succ c ih =>
    intro q hq
    by_cases h : 2 ^ 52 ≤ q
    · exact ⟨_, V_at hq (.inl h)⟩
    · obtain ⟨t, ht⟩ := ih (2 * q) (by omega)
      exact ⟨t, by rw [ht, Nat.pow_succ, Nat.mul_comm 2 q, Nat.mul_assoc, Nat.mul_comm 2]⟩
theorem big_ge {c : Nat} (h : c ≤ 2040) : 2 ^ (c + 54) < (2 ^ 54 - 1) * 2 ^ 2045 :=
  Nat.lt_of_le_of_lt (Nat.pow_le_pow_right (by decide) (show c + 54 ≤ 2094 by omega)) (by
    rw [show (2094 : Nat) = 49 + 2045 by rfl, Nat.pow_add]
    exact Nat.mul_lt_mul_of_pos_right (by decide) (Nat.two_pow_pos _))
theorem Right.lt_inf {r : UInt64} {neg : Bool} {W D c : Nat} (h : Right r neg W D) (hD : 0 < D) (hc : c ≤ 2040) (hW : W ≤ D * 2 ^ (c + 53)) :
    ∃ t, r = pack neg t ∧ t < infMag ∧ ∀ t', dist W (D * V t) ≤ dist W (D * V t') := by
  obtain ⟨t, rfl, h1, h2, h3⟩ := h
  have hlt : t < infMag := by
    rcases Nat.lt_or_ge t infMag with q | q
    · exact q
    · have := h2.mp (by omega)
      have h4 := Nat.mul_lt_mul_of_pos_left (big_ge hc) hD
      have h5 : 2 * W ≤ D * 2 ^ (c + 54) := by
        rw [Nat.pow_succ 2 (c + 53), ← Nat.mul_assoc]; omega
      omega
  exact ⟨t, rfl, hlt, fun t' => (h3 hlt t').1⟩
theorem Right.near {r : UInt64} {neg : Bool} {W D c : Nat} (h : Right r neg W D) (hD : 0 < D) (hc : c ≤ 2040) (hW : W ≤ D * 2 ^ (c + 53)) :
    IsF r ∧ ∃ v, val r = sgn neg v ∧ 2 * dist W (D * v) ≤ D * 2 ^ c := by
  obtain ⟨t, rfl, hlt, hn⟩ := Right.lt_inf h hD hc hW
  obtain ⟨m, e, hd, hv⟩ := decode_pack neg hlt
  refine ⟨⟨neg, m, e, hd⟩, V t, val_pack neg hlt, ?_⟩
  have hG : 0 < D * 2 ^ c := Nat.mul_pos hD (Nat.two_pow_pos _)
  have e1 := Nat.div_add_mod W (D * 2 ^ c)
  have e2 := Nat.mod_lt W hG
  have e3 : W / (D * 2 ^ c) ≤ 2 ^ 53 := by
    refine Nat.div_le_of_le_mul ?_
    rw [Nat.mul_assoc, ← Nat.pow_add]; exact hW
  generalize hq : W / (D * 2 ^ c) = q at e1 e3
  have hs : ∀ q, D * (q * 2 ^ c) = D * 2 ^ c * q := fun q => by rw [Nat.mul_comm q, Nat.mul_assoc]
  obtain ⟨t1, ht1⟩ := rep c q e3
  have n1 := hn t1
  rw [ht1, hs] at n1
  by_cases hq2 : q = 2 ^ 53
  · have hW2 : W ≤ D * 2 ^ c * q := by rw [hq2, Nat.mul_assoc, ← Nat.pow_add]; exact hW
    have : dist W (D * 2 ^ c * q) = 0 := by unfold dist; omega
    omega
  · obtain ⟨t2, ht2⟩ := rep c (q + 1) (by omega)
    have n2 := hn t2
    rw [ht2, hs, Nat.mul_succ] at n2
    generalize dist W (D * V t) = d at n1 n2 ⊢
    generalize D * 2 ^ c * q = a at *
    unfold dist at n1 n2
    omega
/-- a float that is the nearest one to Z / D -/
def NearI (r : UInt64) (Z : Int) (D : Nat) : Prop := 0 < D ∧ ∃ neg W, Right r neg W D ∧ sgn neg W = Z
theorem sgn_dist (neg : Bool) (a b : Nat) : (sgn neg a - sgn neg b).natAbs = dist a b := by
  unfold sgn dist; cases neg <;> simp <;> omega
theorem sgn_mulD (neg : Bool) (D v : Nat) : (D : Int) * sgn neg v = sgn neg (D * v) := by
  unfold sgn; cases neg <;> simp [Int.mul_neg]
theorem NearI.near {r : UInt64} {Z : Int} {D c : Nat} (h : NearI r Z D) (hc : c ≤ 2040) (hZ : Z.natAbs ≤ D * 2 ^ (c + 53)) :
    IsF r ∧ 2 * (Z - D * val r).natAbs ≤ D * 2 ^ c := by
  obtain ⟨hD, neg, W, hR, rfl⟩ := h
  rw [sgn_natAbs] at hZ
  obtain ⟨hf, v, e1, e2⟩ := Right.near hR hD hc hZ
  refine ⟨hf, ?_⟩
  rw [e1, sgn_mulD, sgn_dist]; exact e2
theorem NearI.any {r : UInt64} {Z : Int} {D : Nat} {c q t' : Nat} (h : NearI r Z D) (hc : c ≤ 2040) (hZ : Z.natAbs ≤ D * 2 ^ (c + 53)) (hq : V t' = q) :
    ∃ t, t < infMag ∧ IsF r ∧ (val r).natAbs = V t ∧ dist Z.natAbs (D * (val r).natAbs) ≤ dist Z.natAbs (D * q) ∧ (0 ≤ Z → 0 ≤ val r ∨ val r = 0) := by
  obtain ⟨hD, neg, W, hR, rfl⟩ := h
  rw [sgn_natAbs] at hZ ⊢
  obtain ⟨t, rfl, hlt, hn⟩ := Right.lt_inf hR hD hc hZ
  obtain ⟨m, e, hd, hv⟩ := decode_pack neg hlt
  refine ⟨t, hlt, ⟨neg, m, e, hd⟩, by rw [val_pack neg hlt, sgn_natAbs], ?_, ?_⟩
  · rw [val_pack neg hlt, sgn_natAbs, ← hq]; exact hn t'
  · intro h0
    rw [val_pack neg hlt]
    unfold sgn at h0 ⊢
    cases neg
    · left; simp
    · simp only [if_true] at h0 ⊢
      have hW0 : W = 0 := by omega
      right
      have := hn 0
      rw [V_zero, hW0] at this
      unfold dist at this
      have h3 : D * V t = 0 := by omega
      rcases Nat.mul_eq_zero.mp h3 with q | q
      · omega
      · rw [q]; rfl
theorem NearI.exact {r : UInt64} {Z q : Int} {D c : Nat} (h : NearI r Z D) (hc : c ≤ 1980) (hZ : Z = D * (q * (2 ^ c : Nat))) (hq : q.natAbs ≤ 2 ^ 53) :
    IsF r ∧ val r = q * (2 ^ c : Nat) := by
  have hb : Z.natAbs ≤ D * 2 ^ (c + 53) := by
    rw [hZ, Int.natAbs_mul, Int.natAbs_mul, Int.natAbs_natCast, Int.natAbs_natCast, Nat.add_comm, Nat.pow_add]
    exact Nat.mul_le_mul_left _ (Nat.mul_le_mul_right _ hq)
  obtain ⟨hD, neg, W, hR, e⟩ := h
  have hZ' := hZ
  rw [← e] at hb hZ
  rw [sgn_natAbs] at hb
  obtain ⟨t, rfl, hlt, hn⟩ := Right.lt_inf hR hD (by omega) hb
  obtain ⟨m, e', hd, hv⟩ := decode_pack neg hlt
  refine ⟨⟨neg, m, e', hd⟩, ?_⟩
  obtain ⟨t', ht'⟩ := rep c q.natAbs hq
  have h1 := hn t'
  have hW : W = D * (q.natAbs * 2 ^ c) := by
    have := congrArg Int.natAbs hZ
    rw [sgn_natAbs, Int.natAbs_mul, Int.natAbs_mul, Int.natAbs_natCast, Int.natAbs_natCast] at this
    exact this
  rw [ht', ← hW] at h1
  have h2 : W = D * V t := by unfold dist at h1; omega
  rw [val_pack neg hlt]
  refine Int.eq_of_mul_eq_mul_left (show (D : Int) ≠ 0 by omega) ?_
  rw [sgn_mulD, ← h2, e, hZ']
theorem isF_add {x y : UInt64} (hx : IsF x) (hy : IsF y) : NearI (add x y) (val x + val y) 1 := by
  obtain ⟨a, m, e, hx⟩ := hx
  obtain ⟨b, k, f, hy⟩ := hy
  obtain ⟨h1, h2⟩ := add_right hx hy
  by_cases h : val x + val y = 0
  · refine ⟨by decide, a && b, 0, ?_, by rw [h]; unfold sgn; simp⟩
    rw [h1 h]
    refine ⟨0, rfl, Nat.zero_le _, ?_, ?_⟩
    · constructor
      · intro q; unfold infMag at q; simp at q
      · intro q; rw [Nat.one_mul, Nat.mul_zero] at q; exact absurd (Nat.le_zero.mp q) (Nat.ne_of_gt (Nat.mul_pos (by decide) (Nat.two_pow_pos _)))
    · intro _ t'
      rw [V_zero]
      exact ⟨by unfold dist; omega, fun _ _ => rfl⟩
  · exact ⟨by decide, _, _, h2 h, sgn_self _⟩
theorem isF_neg {y : UInt64} (hy : IsF y) : IsF (neg y) ∧ val (neg y) = -val y := by
  obtain ⟨b, k, f, hy⟩ := hy
  exact ⟨⟨_, _, _, neg_decode hy⟩, neg_val hy⟩
theorem isF_sub {x y : UInt64} (hx : IsF x) (hy : IsF y) : NearI (sub x y) (val x - val y) 1 := by
  have h := isF_add hx (isF_neg hy).1
  rw [(isF_neg hy).2, ← Int.sub_eq_add_neg] at h
  unfold sub
  exact h
theorem sgn_xor (a b : Bool) (m k : Nat) : sgn (a != b) (m * k) = sgn a m * sgn b k := by
  unfold sgn; cases a <;> cases b <;> simp [Int.mul_neg, Int.neg_mul]
theorem val_sgn {x : UInt64} {a : Bool} {m : Nat} {e : Int} (h : decode x = .fin a m e) : val x = sgn a (val x).natAbs := by
  rw [val_natAbs h, val_eq h]
theorem isF_mul {x y : UInt64} (hx : IsF x) (hy : IsF y) : NearI (mul x y) (val x * val y) (2 ^ 1074) := by
  obtain ⟨a, m, e, hx⟩ := hx
  obtain ⟨b, k, f, hy⟩ := hy
  refine ⟨Nat.two_pow_pos _, _, _, mul_right hx hy, ?_⟩
  rw [sgn_xor, ← val_sgn hx, ← val_sgn hy]
theorem isF_div {x y : UInt64} (hx : IsF x) (hy : IsF y) (h0 : 0 < val y) : NearI (div x y) (val x * (2 ^ 1074 : Nat)) (val y).natAbs := by
  obtain ⟨a, m, e, hx⟩ := hx
  obtain ⟨b, k, f, hy⟩ := hy
  have hk : k ≠ 0 := by
    rintro rfl
    have := val_natAbs hy
    rw [Nat.zero_mul] at this
    omega
  refine ⟨by omega, _, _, div_right hx hy hk, ?_⟩
  have hb : b = false := by
    have := val_sgn hy
    cases b
    · rfl
    · unfold sgn at this; simp at this; omega
  rw [hb]
  rw [show (a != false) = a by cases a <;> rfl, sgn_mul, ← val_sgn hx]
theorem isF_ofInt (i : Int) : NearI (ofInt i) (i * (2 ^ 1074 : Nat)) 1 := by
  refine ⟨by decide, _, _, ofInt_right i, ?_⟩
  rw [sgn_mul, sgn_self]
theorem isF_ofFrac (i : Int) (d : Nat) (hd : 0 < d) : NearI (ofFrac (decide (i < 0)) i.natAbs d) (i * (2 ^ 1074 : Nat)) d := by
  refine ⟨hd, _, _, ofFrac_right hd (D := d) (W := i.natAbs * 2 ^ 1074) rfl hd, ?_⟩
  rw [sgn_mul, sgn_self]
theorem isF_fma {x y z : UInt64} (hx : IsF x) (hy : IsF y) (hz : IsF z) : NearI (fma x y z) (val x * val y + val z * (2 ^ 1074 : Nat)) (2 ^ 1074) := by
  obtain ⟨a, m, e, hx⟩ := hx
  obtain ⟨b, k, f, hy⟩ := hy
  obtain ⟨c, n, g, hz⟩ := hz
  have he := decode_ge hx
  have hf := decode_ge hy
  have hg := decode_ge hz
  have hfm : fma x y z = (if sgn (a != b) (m * k * 2 ^ ((e + f) - min (e + f) g).toNat) + sgn c (n * 2 ^ (g - min (e + f) g).toNat) == 0 then zero (if m * k == 0 && n == 0 then (a != b) && c else false)
      else ofBin (sgn (a != b) (m * k * 2 ^ ((e + f) - min (e + f) g).toNat) + sgn c (n * 2 ^ (g - min (e + f) g).toNat) < 0) (sgn (a != b) (m * k * 2 ^ ((e + f) - min (e + f) g).toNat) + sgn c (n * 2 ^ (g - min (e + f) g).toNat)).natAbs (min (e + f) g)) := by
    unfold fma
    rw [hx, hy, hz]
    rfl
  have hp : (sgn (a != b) (m * k * 2 ^ ((e + f) - min (e + f) g).toNat) + sgn c (n * 2 ^ (g - min (e + f) g).toNat)) * ((2 ^ (min (e + f) g + 2148).toNat : Nat) : Int) = val x * val y + val z * (2 ^ 1074 : Nat) := by
    rw [Int.add_mul, ← sgn_mul, ← sgn_mul, val_eq hx, val_eq hy, val_eq hz, ← sgn_xor, ← sgn_mul]
    congr 2
    · rw [Nat.mul_assoc, ← Nat.pow_add, show ((e + f) - min (e + f) g).toNat + (min (e + f) g + 2148).toNat = (e + 1074).toNat + (f + 1074).toNat by omega, Nat.pow_add]
      ac_rfl
    · rw [Nat.mul_assoc, Nat.mul_assoc, ← Nat.pow_add, ← Nat.pow_add]
      congr 2
      omega
  rw [hfm]
  generalize hs : sgn (a != b) (m * k * 2 ^ ((e + f) - min (e + f) g).toNat) + sgn c (n * 2 ^ (g - min (e + f) g).toNat) = t at hp ⊢
  by_cases h0 : t = 0
  · rw [if_pos (by simpa using h0)]
    rw [← hp, h0, Int.zero_mul]
    generalize (if m * k == 0 && n == 0 then (a != b) && c else false) = sg
    refine ⟨Nat.two_pow_pos _, sg, 0, ⟨0, rfl, Nat.zero_le _, ?_, ?_⟩, by unfold sgn; simp⟩
    · constructor
      · intro q; unfold infMag at q; simp at q
      · intro q; rw [Nat.mul_zero] at q; exact absurd (Nat.le_zero.mp q) (Nat.ne_of_gt (Nat.mul_pos (Nat.two_pow_pos _) (Nat.mul_pos (by decide) (Nat.two_pow_pos _))))
    · intro _ t'
      rw [V_zero]
      exact ⟨by unfold dist; omega, fun _ _ => rfl⟩
  · rw [if_neg (by simpa using h0)]
    have hpos : (0 : Int) < ((2 ^ (min (e + f) g + 2148).toNat : Nat) : Int) := Int.ofNat_lt.mpr (Nat.two_pow_pos _)
    refine ⟨Nat.two_pow_pos _, decide (t < 0), t.natAbs * 2 ^ (min (e + f) g + 2148).toNat, ?_, by rw [sgn_mul, sgn_self, hp]⟩
    unfold ofBin
    refine ofFrac_right (shift_pos _ _ _ (by decide)) ?_ (Nat.two_pow_pos _)
    have := shift_one t.natAbs (min (e + f) g) 2148 (by omega)
    rw [show (min (e + f) g + ((2148 : Nat) : Int)).toNat = (min (e + f) g + 2148).toNat by omega] at this
    rw [Nat.mul_assoc, ← Nat.pow_add]
    exact this
end Mine
end
section
open PySem PySem.Float64
set_option Elab.async false
set_option maxRecDepth 100000
set_option exponentiation.threshold 3000
namespace Mine
def E (c : Nat) (x : UInt64) (p : Int) : Prop := IsF x ∧ val x = p * (2 ^ c : Nat)
theorem E.add {c : Nat} {x y : UInt64} {p q : Int} (hx : E c x p) (hy : E c y q) (hb : (p + q).natAbs ≤ 2 ^ 53) (hc : c ≤ 1980) : E c (Float64.add x y) (p + q) :=
  NearI.exact (isF_add hx.1 hy.1) hc (by rw [hx.2, hy.2, Int.add_mul]; simp) hb
theorem E.sub {c : Nat} {x y : UInt64} {p q : Int} (hx : E c x p) (hy : E c y q) (hb : (p - q).natAbs ≤ 2 ^ 53) (hc : c ≤ 1980) : E c (Float64.sub x y) (p - q) :=
  NearI.exact (isF_sub hx.1 hy.1) hc (by rw [hx.2, hy.2, Int.sub_mul]; simp) hb
theorem E.neg {c : Nat} {x : UInt64} {p : Int} (hx : E c x p) : E c (Float64.neg x) (-p) :=
  ⟨(isF_neg hx.1).1, by rw [(isF_neg hx.1).2, hx.2, Int.neg_mul]⟩
theorem pow_add' (a b : Nat) : ((2 ^ (a + b) : Nat) : Int) = ((2 ^ a : Nat) : Int) * ((2 ^ b : Nat) : Int) := by rw [Nat.pow_add, Int.natCast_mul]
theorem E.prod {c d e : Nat} {x y : UInt64} {p q : Int} (hx : E c x p) (hy : E d y q) (h : c + d = e + 1074) : val x * val y = (2 ^ 1074 : Nat) * (p * q * (2 ^ e : Nat)) := by
  rw [hx.2, hy.2]
  have e1 := pow_add' c d
  rw [h, pow_add'] at e1
  generalize ((2 ^ 1074 : Nat) : Int) = K at *
  generalize ((2 ^ c : Nat) : Int) = a at *
  generalize ((2 ^ d : Nat) : Int) = b at *
  generalize ((2 ^ e : Nat) : Int) = g at *
  calc p * a * (q * b) = p * q * (a * b) := by ac_rfl
    _ = p * q * (g * K) := by rw [e1]
    _ = K * (p * q * g) := by ac_rfl
theorem E.mul {c d e : Nat} {x y : UInt64} {p q : Int} (hx : E c x p) (hy : E d y q) (h : c + d = e + 1074) (hb : (p * q).natAbs ≤ 2 ^ 53) (he : e ≤ 1980) : E e (Float64.mul x y) (p * q) :=
  NearI.exact (isF_mul hx.1 hy.1) he (by rw [hx.prod hy h]) hb
theorem E.fma {c d e : Nat} {x y z : UInt64} {p q r : Int} (hx : E c x p) (hy : E d y q) (hz : E e z r) (h : c + d = e + 1074) (hb : (p * q + r).natAbs ≤ 2 ^ 53) (he : e ≤ 1980) : E e (Float64.fma x y z) (p * q + r) :=
  NearI.exact (isF_fma hx.1 hy.1 hz.1) he (by
    rw [hx.prod hy h, hz.2, Int.add_mul, Int.mul_add]
    congr 1
    rw [Int.mul_comm]) hb
theorem E.zero {c : Nat} {x : UInt64} (h : IsF x) (hv : val x = 0) : E c x 0 := ⟨h, by rw [hv, Int.zero_mul]⟩
theorem E.to {c d : Nat} {x : UInt64} (h : E c x 0) : E d x 0 := ⟨h.1, by rw [h.2, Int.zero_mul, Int.zero_mul]⟩
theorem E.zeroF (c : Nat) (b : Bool) : E c (Float64.zero b) 0 := E.zero (isF_zero b).1 (isF_zero b).2
theorem E.ofInt {i : Int} (h : i.natAbs ≤ 2 ^ 53) : E 1074 (Float64.ofInt i) i :=
  NearI.exact (isF_ofInt i) (by decide) (by simp) h
theorem E.scale {c d : Nat} {x : UInt64} {p : Int} (h : E (c + d) x p) : E c x (p * (2 ^ d : Nat)) := ⟨h.1, by rw [h.2, pow_add']; ac_rfl⟩
theorem E.isZero_iff {c : Nat} {x : UInt64} {p : Int} (h : E c x p) : isZero x = true ↔ p = 0 := by
  rw [h.1.zero_iff, h.2]
  constructor
  · intro q
    rcases Int.mul_eq_zero.mp q with q | q
    · exact q
    · exact absurd (Int.ofNat_eq_zero.mp q) (Nat.ne_of_gt (Nat.two_pow_pos _))
  · rintro rfl; exact Int.zero_mul _
/-- the partials of a sum that is exact -/
def PS (c : Nat) (ps : List UInt64) (s : Int) : Prop := (ps = [] ∧ s = 0) ∨ ∃ p, ps = [p] ∧ E c p s
theorem fsumAdd_exact {c : Nat} {ps : List UInt64} {x : UInt64} {s v : Int} (hp : PS c ps s) (hx : E c x v) (hc : c ≤ 1980) (h1 : s.natAbs + v.natAbs ≤ 2 ^ 53) :
    (Float64.fsumAdd ps x).1 = [] ∧ E c (Float64.fsumAdd ps x).2 (s + v) := by
  rcases hp with ⟨rfl, rfl⟩ | ⟨p, rfl, hp⟩
  · exact ⟨rfl, by rw [Int.zero_add]; exact hx⟩
  · have key : ∀ a b (p q : Int), E c a p → E c b q → p + q = s + v → p.natAbs + q.natAbs ≤ 2 ^ 53 →
        (if isZero (Float64.sub b (Float64.sub (Float64.add a b) a)) then ([] : List UInt64) else [Float64.sub b (Float64.sub (Float64.add a b) a)]) = [] ∧ E c (Float64.add a b) (s + v) := by
      intro a b p q ha hb e hpq
      have h2 := ha.add hb (by omega) hc
      have h3 := h2.sub ha (by omega) hc
      have h4 := hb.sub h3 (by omega) hc
      rw [show q - (p + q - p) = 0 by omega] at h4
      exact ⟨if_pos (h4.isZero_iff.mpr rfl), e ▸ h2⟩
    unfold Float64.fsumAdd
    cases Float64.lt (Float64.abs x) (Float64.abs p) with
    | true => exact key p x s v hp hx rfl h1
    | false => exact key x p v s hx hp (Int.add_comm _ _) (by omega)
theorem fs_run {c B : Nat} {g : Int → UInt64} (hc : c ≤ 1980) : ∀ (vs : List Int) (ps : List UInt64) (s : Int), PS c ps s → (∀ v ∈ vs, v.natAbs ≤ B ∧ E c (g v) v) → s.natAbs + vs.length * B ≤ 2 ^ 53 →
    ∃ r, FsRun ps (vs.map g) r ∧ E c r (s + vs.sum)
  | [], ps, s, hp, _, hb => by
    refine ⟨_, .nil, ?_⟩
    rw [List.sum_nil, Int.add_zero]
    rcases hp with ⟨rfl, rfl⟩ | ⟨p, rfl, hp⟩
    · exact E.zeroF _ _
    · exact hp
  | v :: vs, ps, s, hp, hv, hb => by
    obtain ⟨h1, h2⟩ := hv v (.head _)
    rw [List.length_cons, Nat.succ_mul] at hb
    obtain ⟨e1, e2⟩ := fsumAdd_exact hp h2 hc (by omega)
    have hps : PS c (if Float64.isZero (Float64.fsumAdd ps (g v)).2 then (Float64.fsumAdd ps (g v)).1 else (Float64.fsumAdd ps (g v)).1 ++ [(Float64.fsumAdd ps (g v)).2]) (s + v) := by
      rw [e1]
      cases q : Float64.isZero (Float64.fsumAdd ps (g v)).2 with
      | true => exact .inl ⟨rfl, e2.isZero_iff.mp q⟩
      | false => exact .inr ⟨_, rfl, e2⟩
    obtain ⟨r, h3, h4⟩ := fs_run hc vs _ (s + v) hps (fun x hx => hv x (.tail _ hx)) (by omega)
    refine ⟨r, FsRun.cons e2.1.finite ?_ h3, by rw [List.sum_cons, ← Int.add_assoc]; exact h4⟩
    rcases hps with ⟨e, _⟩ | ⟨p, e, _⟩
    · rw [e]; decide
    · rw [e]; simp
/-- an exact two-sum -/
theorem dlSum_exact {f : Nat} {a b : UInt64} {p q : Int} (ha : E f a p) (hb : E f b q) (hf : f ≤ 1980) (h : p.natAbs + q.natAbs ≤ 2 ^ 53) :
    E f (Builtin.Math.dlSum a b).1 (p + q) ∧ E f (Builtin.Math.dlSum a b).2 0 := by
  have h1 := ha.add hb (by omega) hf
  have h2 := h1.sub ha (by omega) hf
  have h3 := h1.sub h2 (by omega) hf
  have h4 := ha.sub h3 (by omega) hf
  have h5 := hb.sub h2 (by omega) hf
  have h6 := h4.add h5 (by omega) hf
  refine ⟨h1, ?_⟩
  rw [show p - (p + q - (p + q - p)) + (q - (p + q - p)) = 0 by omega] at h6
  exact h6
theorem tlFma_exact {d e f : Nat} {x y t1 t2 t3 : UInt64} {a b s : Int} (hx : E d x a) (hy : E e y b) (h : d + e = f + 1074) (hf : f ≤ 1980) (h1 : E f t1 s) (h2 : E f t2 0) (h3 : E f t3 0) (hb : s.natAbs + (a * b).natAbs ≤ 2 ^ 53) :
    E f (Builtin.Math.tlFma x y (t1, t2, t3)).1 (s + a * b) ∧ E f (Builtin.Math.tlFma x y (t1, t2, t3)).2.1 0 ∧ E f (Builtin.Math.tlFma x y (t1, t2, t3)).2.2 0 := by
  have z := hx.mul hy h (by omega) hf
  have fz := hx.fma hy z.neg h (by omega) hf
  rw [show a * b + -(a * b) = 0 by omega] at fz
  obtain ⟨s1, s2⟩ := dlSum_exact h1 z hf hb
  obtain ⟨r1, r2⟩ := dlSum_exact h2 fz hf (by decide)
  obtain ⟨u1, u2⟩ := dlSum_exact r1 s2 hf (by decide)
  refine ⟨s1, u1, ?_⟩
  have := (h3.add r2 (by decide) hf).add u2 (by decide) hf
  exact this
theorem tlToFloat_exact {f : Nat} {t : UInt64 × UInt64 × UInt64} {s : Int} (hf : f ≤ 1980) (h1 : E f t.1 s) (h2 : E f t.2.1 0) (h3 : E f t.2.2 0) (hb : s.natAbs ≤ 2 ^ 53) : E f (Builtin.Math.tlToFloat t) s := by
  obtain ⟨u1, u2⟩ := dlSum_exact h2 h1 hf (by simpa using hb)
  have := (h3.add u2 (by decide) hf).add u1 (by simpa using hb) hf
  rw [show (0 : Int) + 0 + (0 + s) = s by omega] at this
  exact this
inductive EL (c : Nat) : List UInt64 → List Int → Prop
  | nil : EL c [] []
  | cons {x a xs as} : E c x a → EL c xs as → EL c (x :: xs) (a :: as)
def dotI (as bs : List Int) : Int := ((as.zip bs).map fun p => p.1 * p.2).sum
theorem sp_run {d e f B : Nat} (h : d + e = f + 1074) (hf : f ≤ 1980) : ∀ {xs ys : List UInt64} {as bs : List Int} {t1 t2 t3 : UInt64} {s : Int}, EL d xs as → EL e ys bs → as.length = bs.length → E f t1 s → E f t2 0 → E f t3 0 →
    (∀ a ∈ as, a.natAbs ≤ B) → (∀ b ∈ bs, b.natAbs ≤ B) → s.natAbs + as.length * (B * B) ≤ 2 ^ 53 → ∃ r, SpRun (t1, t2, t3) xs ys r ∧ E f r.1 (s + dotI as bs) ∧ E f r.2.1 0 ∧ E f r.2.2 0
  | _, _, _, _, t1, t2, t3, s, .nil, .nil, _, h1, h2, h3, _, _, _ => ⟨_, .nil, by show E f t1 (s + 0); rw [Int.add_zero]; exact h1, h2, h3⟩
  | _, _, _, _, t1, t2, t3, s, .cons .., .nil, hl, _, _, _, _, _, _ => by simp at hl
  | _, _, _, _, t1, t2, t3, s, .nil, .cons .., hl, _, _, _, _, _, _ => by simp at hl
  | _, _, _, _, t1, t2, t3, s, .cons (x := x) (a := a) (as := as) hx hxs, .cons (x := y) (a := b) (as := bs) hy hys, hl, h1, h2, h3, ha, hb, hB => by
    rw [List.length_cons, Nat.succ_mul] at hB
    have hab : (a * b).natAbs ≤ B * B := by rw [Int.natAbs_mul]; exact Nat.mul_le_mul (ha a (.head _)) (hb b (.head _))
    obtain ⟨u1, u2, u3⟩ := tlFma_exact hx hy h hf h1 h2 h3 (by omega)
    obtain ⟨r, r0, r1, r2, r3⟩ := sp_run h hf hxs hys (by simpa using hl) u1 u2 u3 (fun z hz => ha z (.tail _ hz)) (fun z hz => hb z (.tail _ hz)) (by omega)
    refine ⟨r, .cons u1.1.finite r0, ?_, r2, r3⟩
    have : dotI (a :: as) (b :: bs) = a * b + dotI as bs := by simp [dotI]
    rw [this, ← Int.add_assoc]; exact r1
/-- the exact sum of products as a float -/
theorem sp_float {d e f B : Nat} (h : d + e = f + 1074) (hf : f ≤ 1980) {xs ys : List UInt64} {as bs : List Int} (h1 : EL d xs as) (h2 : EL e ys bs) (hl : as.length = bs.length)
    (ha : ∀ a ∈ as, a.natAbs ≤ B) (hb : ∀ b ∈ bs, b.natAbs ≤ B) (hB : as.length * (B * B) ≤ 2 ^ 53) (hs : (dotI as bs).natAbs ≤ 2 ^ 53) :
    ∃ r, SpRun (Float64.zero false, Float64.zero false, Float64.zero false) xs ys r ∧ E f (Float64.add (Float64.ofInt 0) (Builtin.Math.tlToFloat r)) (dotI as bs) := by
  obtain ⟨r, r0, r1, r2, r3⟩ := sp_run h hf h1 h2 hl (E.zeroF f false) (E.zeroF f false) (E.zeroF f false) ha hb (by simpa using hB)
  rw [Int.zero_add] at r1
  have := (E.ofInt (i := 0) (by decide)).to.add (tlToFloat_exact hf r1 r2 r3 hs) (by simpa using hs) hf
  rw [Int.zero_add] at this
  exact ⟨r, r0, this⟩
theorem dot_bound {B : Nat} : ∀ {as bs : List Int}, (∀ a ∈ as, a.natAbs ≤ B) → (∀ b ∈ bs, b.natAbs ≤ B) → (dotI as bs).natAbs ≤ as.length * (B * B)
  | [], _, _, _ => by simp [dotI]
  | _ :: _, [], _, _ => by simp [dotI]
  | a :: as, b :: bs, ha, hb => by
    have h1 := dot_bound (as := as) (bs := bs) (fun z hz => ha z (.tail _ hz)) (fun z hz => hb z (.tail _ hz))
    have h2 : (a * b).natAbs ≤ B * B := by rw [Int.natAbs_mul]; exact Nat.mul_le_mul (ha a (.head _)) (hb b (.head _))
    have e : dotI (a :: as) (b :: bs) = a * b + dotI as bs := by simp [dotI]
    rw [e, List.length_cons, Nat.succ_mul]
    omega
end Mine
end
section
open PySem PySem.Float64
set_option Elab.async false
set_option maxRecDepth 100000
set_option exponentiation.threshold 3000
namespace Mine
theorem two_sided {x : Int} {b : Nat} (h : x.natAbs ≤ b) : -(b : Int) ≤ x ∧ x ≤ b := by omega
theorem of_two {x : Int} {b : Nat} (h1 : -(b : Int) ≤ x) (h2 : x ≤ b) : x.natAbs ≤ b := by omega
theorem NearI.rel {r : UInt64} {Z : Int} {D : Nat} (h : NearI r Z D) (h1 : D * 2 ^ 52 ≤ Z.natAbs) (h2 : Z.natAbs ≤ D * 2 ^ 2000) : IsF r ∧ 2 ^ 53 * (Z - D * val r).natAbs ≤ Z.natAbs := by
  have hD := h.1
  have hq : 2 ^ 52 ≤ Z.natAbs / D := (Nat.le_div_iff_mul_le hD).mpr (by rw [Nat.mul_comm]; exact h1)
  have hq0 : Z.natAbs / D ≠ 0 := by omega
  have a1 := Nat.log2_self_le hq0
  have a2 := Nat.lt_log2_self (n := Z.natAbs / D)
  have a3 : 52 ≤ (Z.natAbs / D).log2 := (Nat.le_log2 hq0).mpr hq
  have hq2 : Z.natAbs / D ≤ 2 ^ 2000 := Nat.div_le_of_le_mul h2
  have a4 : (Z.natAbs / D).log2 ≤ 2000 := by
    rcases Nat.lt_or_ge 2000 (Z.natAbs / D).log2 with q | q
    · have := Nat.pow_lt_pow_right (a := 2) (by decide) q
      omega
    · exact q
  generalize hl : (Z.natAbs / D).log2 = l at a1 a2 a3 a4
  have e1 := Nat.div_add_mod Z.natAbs D
  have e2 := Nat.mod_lt Z.natAbs hD
  have b1 : D * 2 ^ l ≤ Z.natAbs := Nat.le_trans (Nat.mul_le_mul_left D a1) (by omega)
  have b2 : Z.natAbs ≤ D * 2 ^ (l - 52 + 53) := by
    have : D * (Z.natAbs / D + 1) ≤ D * 2 ^ (l + 1) := Nat.mul_le_mul_left D a2
    rw [Nat.mul_succ] at this
    rw [show l - 52 + 53 = l + 1 by omega]
    omega
  obtain ⟨hf, hn⟩ := h.near (c := l - 52) (by omega) b2
  refine ⟨hf, ?_⟩
  have b3 : 2 ^ 52 * (D * 2 ^ (l - 52)) = D * 2 ^ l := by
    rw [Nat.mul_left_comm, ← Nat.pow_add, show 52 + (l - 52) = l by omega]
  have := Nat.mul_le_mul_left (2 ^ 52) hn
  omega
theorem IsF.toE {x : UInt64} (h : IsF x) (hb : (val x).natAbs ≤ 2 ^ 1980) : ∃ c p, c ≤ 1980 ∧ p.natAbs ≤ 2 ^ 53 ∧ E c x p := by
  obtain ⟨a, m, e, hd⟩ := h
  have hm := decode_le hd
  by_cases h0 : m = 0
  · refine ⟨0, 0, by decide, by decide, ⟨a, m, e, hd⟩, ?_⟩
    rw [val_eq hd, h0, Nat.zero_mul]; unfold sgn; simp
  · refine ⟨(e + 1074).toNat, sgn a m, ?_, by rw [sgn_natAbs]; omega, ⟨a, m, e, hd⟩, by rw [val_eq hd, sgn_mul]⟩
    rcases Nat.lt_or_ge 1980 (e + 1074).toNat with q | q
    · rw [val_natAbs hd] at hb
      have := Nat.pow_lt_pow_right (a := 2) (by decide) q
      have h2 := Nat.mul_le_mul_right (2 ^ (e + 1074).toNat) (show 1 ≤ m by omega)
      omega
    · exact q
theorem NearI.self {r x : UInt64} {Z : Int} (h : NearI r Z 1) (hx : IsF x) (hZ : Z = val x) (hb : (val x).natAbs ≤ 2 ^ 1980) : IsF r ∧ val r = val x := by
  obtain ⟨c, p, hc, hp, hE⟩ := hx.toE hb
  rw [hE.2] at hZ ⊢
  exact h.exact hc (by rw [hZ]; simp) hp
/-- a two-sum whose sum is exact -/
theorem dlSum_of {a b : UInt64} (ha : IsF a) (hb : IsF b) (hx : IsF (Float64.add a b)) (hv : val (Float64.add a b) = val a + val b) (b1 : (val a).natAbs ≤ 2 ^ 1900) (b2 : (val b).natAbs ≤ 2 ^ 1900) :
    IsF (Builtin.Math.dlSum a b).1 ∧ val (Builtin.Math.dlSum a b).1 = val a + val b ∧ IsF (Builtin.Math.dlSum a b).2 ∧ val (Builtin.Math.dlSum a b).2 = 0 := by
  have hlt : (2 : Nat) ^ 1900 ≤ 2 ^ 1980 := Nat.pow_le_pow_right (by decide) (by decide)
  obtain ⟨z1, z2⟩ := (isF_sub hx ha).self hb (by rw [hv]; omega) (by omega)
  obtain ⟨w1, w2⟩ := (isF_sub hx z1).self ha (by rw [hv, z2]; omega) (by omega)
  have u := (isF_sub ha w1).exact (q := 0) (c := 0) (by decide) (by rw [w2]; simp) (by decide)
  have v := (isF_sub hb z1).exact (q := 0) (c := 0) (by decide) (by rw [z2]; simp) (by decide)
  have f := (isF_add u.1 v.1).exact (q := 0) (c := 0) (by decide) (by rw [u.2, v.2]; simp) (by decide)
  refine ⟨hx, hv, f.1, ?_⟩
  rw [show (Builtin.Math.dlSum a b).2 = Float64.add (Float64.sub a (Float64.sub (Float64.add a b) (Float64.sub (Float64.add a b) a))) (Float64.sub b (Float64.sub (Float64.add a b) a)) from rfl, f.2]
  simp
theorem p55 (j : Nat) : 2 ^ (j + 4 + 53) = 2 ^ 57 * 2 ^ j := by rw [show j + 4 + 53 = 57 + j by omega, Nat.pow_add]
/-- adding what is small: off by no more than 8 units -/
theorem add_near {x y : UInt64} {j : Nat} (hx : IsF x) (hy : IsF y) (hj : j ≤ 2000) (hb : (val x + val y).natAbs ≤ 2 ^ 57 * 2 ^ j) : IsF (Float64.add x y) ∧ (val x + val y - val (Float64.add x y)).natAbs ≤ 8 * 2 ^ j := by
  obtain ⟨h1, h2⟩ := (isF_add hx hy).near (c := j + 4) (by omega) (by rw [p55, Nat.one_mul]; exact hb)
  refine ⟨h1, ?_⟩
  rw [Nat.pow_add] at h2
  simp only [Nat.one_mul, Int.natCast_one, Int.one_mul, Int.cast_ofNat_Int] at h2
  omega
theorem sub_near {x y : UInt64} {j : Nat} (hx : IsF x) (hy : IsF y) (hj : j ≤ 2000) (hb : (val x - val y).natAbs ≤ 2 ^ 57 * 2 ^ j) : IsF (Float64.sub x y) ∧ (val x - val y - val (Float64.sub x y)).natAbs ≤ 8 * 2 ^ j := by
  obtain ⟨h1, h2⟩ := (isF_sub hx hy).near (c := j + 4) (by omega) (by rw [p55, Nat.one_mul]; exact hb)
  refine ⟨h1, ?_⟩
  rw [Nat.pow_add] at h2
  simp only [Nat.one_mul, Int.natCast_one, Int.one_mul, Int.cast_ofNat_Int] at h2
  omega
/-- the plain facts of a two-sum that is off by some units -/
theorem sum_arith {a b x z w p v f : Int} {u : Nat} (x2 : (a + b - x).natAbs ≤ 8 * u) (z2 : (x - a - z).natAbs ≤ 8 * u) (w2 : (x - z - w).natAbs ≤ 8 * u) (u2 : (a - w - p).natAbs ≤ 8 * u) (v2 : (b - z - v).natAbs ≤ 8 * u) (f2 : (p + v - f).natAbs ≤ 8 * u) : f.natAbs ≤ 40 * u := by
  obtain ⟨a1, a2⟩ := two_sided x2
  obtain ⟨a3, a4⟩ := two_sided z2
  obtain ⟨a5, a6⟩ := two_sided w2
  obtain ⟨a7, a8⟩ := two_sided u2
  obtain ⟨a9, b1⟩ := two_sided v2
  obtain ⟨b2, b3⟩ := two_sided f2
  clear x2 z2 w2 u2 v2 f2
  exact of_two (by omega) (by omega)
theorem sum_room {a b : Int} {u : Nat} (h1 : a.natAbs ≤ 2 ^ 55 * u) (h2 : b.natAbs ≤ 2 ^ 55 * u) : (a + b).natAbs ≤ 2 ^ 57 * u := by
  obtain ⟨a1, a2⟩ := two_sided h1
  obtain ⟨a3, a4⟩ := two_sided h2
  clear h1 h2
  exact of_two (by omega) (by omega)
theorem sum_rooms {a b x z w p v : Int} {u : Nat} (h1 : a.natAbs ≤ 2 ^ 55 * u) (h2 : b.natAbs ≤ 2 ^ 55 * u) (x2 : (a + b - x).natAbs ≤ 8 * u) :
    (x - a).natAbs ≤ 2 ^ 57 * u ∧ ((x - a - z).natAbs ≤ 8 * u → (x - z).natAbs ≤ 2 ^ 57 * u ∧ ((x - z - w).natAbs ≤ 8 * u → (a - w).natAbs ≤ 2 ^ 57 * u ∧ (b - z).natAbs ≤ 2 ^ 57 * u ∧ ((a - w - p).natAbs ≤ 8 * u → (b - z - v).natAbs ≤ 8 * u → (p + v).natAbs ≤ 2 ^ 57 * u))) := by
  obtain ⟨a1, a2⟩ := two_sided h1
  obtain ⟨a3, a4⟩ := two_sided h2
  obtain ⟨a5, a6⟩ := two_sided x2
  clear h1 h2 x2
  refine ⟨of_two (by omega) (by omega), fun h => ?_⟩
  obtain ⟨a7, a8⟩ := two_sided h
  clear h
  refine ⟨of_two (by omega) (by omega), fun h => ?_⟩
  obtain ⟨a9, b1⟩ := two_sided h
  clear h
  refine ⟨of_two (by omega) (by omega), of_two (by omega) (by omega), fun h h' => ?_⟩
  obtain ⟨b2, b3⟩ := two_sided h
  obtain ⟨b4, b5⟩ := two_sided h'
  clear h h'
  exact of_two (by omega) (by omega)
theorem dlSum_near {a b : UInt64} {j : Nat} (ha : IsF a) (hb : IsF b) (hj : j ≤ 2000) (b1 : (val a).natAbs ≤ 2 ^ 55 * 2 ^ j) (b2 : (val b).natAbs ≤ 2 ^ 55 * 2 ^ j) :
    IsF (Builtin.Math.dlSum a b).1 ∧ (val a + val b - val (Builtin.Math.dlSum a b).1).natAbs ≤ 8 * 2 ^ j ∧ IsF (Builtin.Math.dlSum a b).2 ∧ (val (Builtin.Math.dlSum a b).2).natAbs ≤ 40 * 2 ^ j := by
  obtain ⟨x1, x2⟩ := add_near ha hb hj (sum_room b1 b2)
  have R := fun z w p v => sum_rooms (z := z) (w := w) (p := p) (v := v) b1 b2 x2
  obtain ⟨z1, z2⟩ := sub_near x1 ha hj (R 0 0 0 0).1
  obtain ⟨w1, w2⟩ := sub_near x1 z1 hj ((R _ 0 0 0).2 z2).1
  obtain ⟨u1, u2⟩ := sub_near ha w1 hj (((R _ _ 0 0).2 z2).2 w2).1
  obtain ⟨v1, v2⟩ := sub_near hb z1 hj (((R _ _ 0 0).2 z2).2 w2).2.1
  obtain ⟨f1, f2⟩ := add_near u1 v1 hj ((((R _ _ _ _).2 z2).2 w2).2.2 u2 v2)
  exact ⟨x1, x2, f1, sum_arith x2 z2 w2 u2 v2 f2⟩
end Mine
end
section
open PySem PySem.Float64
set_option Elab.async false
set_option maxRecDepth 100000
set_option exponentiation.threshold 3000
namespace Mine
theorem pow_sq (k : Nat) : (2 : Nat) ^ (2 * k) = 2 ^ k * 2 ^ k := by rw [Nat.two_mul, Nat.pow_add]
theorem sqrt_spec {z : UInt64} (hz : IsF z) (h1 : 2 ^ 1050 ≤ val z) (h2 : val z ≤ 2 ^ 1120) :
    ∃ q k : Nat, 2 ^ 52 ≤ q ∧ q < 2 ^ 53 ∧ 1009 ≤ k ∧ k ≤ 1045 ∧ E k (Float64.sqrt z) q ∧ (2 * q - 1) * (2 * q - 1) * (2 ^ k * 2 ^ k) ≤ 4 * ((val z).natAbs * 2 ^ 1074) ∧ 4 * ((val z).natAbs * 2 ^ 1074) ≤ (2 * q + 1) * (2 * q + 1) * (2 ^ k * 2 ^ k) := by
  obtain ⟨a, m, e, hd⟩ := hz
  have hp : (0 : Int) < val z := Int.lt_of_lt_of_le (by decide) h1
  have hn : (2 : Nat) ^ 1050 ≤ (val z).natAbs := by omega
  have hn2 : (val z).natAbs ≤ 2 ^ 1120 := by omega
  have ha : a = false := by
    have := val_sgn hd
    cases a
    · rfl
    · unfold sgn at this; simp at this; omega
  subst ha
  have hm : m ≠ 0 := by
    rintro rfl
    have := val_natAbs hd
    rw [Nat.zero_mul] at this
    omega
  obtain ⟨t, ht, hlt, hup, hlo⟩ := sqrt_right hd hm
  obtain ⟨k, q, hkq, hq, hor, hV⟩ := V_form t
  have hV1 : V (t + 1) = (q + 1) * 2 ^ k := by
    have := V_at (k := k) (q := q + 1) (by omega) (by omega)
    rw [← this, hkq, Nat.add_assoc]
  have up := hup (t + 1) (Nat.lt_succ_self _)
  have e1 : (V t + V (t + 1)) * (V t + V (t + 1)) = (2 * q + 1) * (2 * q + 1) * (2 ^ k * 2 ^ k) := by
    rw [hV, hV1, ← Nat.add_mul, show q + (q + 1) = 2 * q + 1 by omega]; ac_rfl
  rw [e1] at up
  have b1 : (2 * q + 1) * (2 * q + 1) ≤ 2 ^ 54 * 2 ^ 54 := Nat.mul_le_mul (by omega) (by omega)
  have hk1 : 1009 ≤ k := by
    have c1 : 2 ^ 2126 ≤ 4 * ((val z).natAbs * 2 ^ 1074) := by
      have := Nat.mul_le_mul_right (2 ^ 1074) hn
      rw [← Nat.pow_add] at this
      calc 2 ^ 2126 = 4 * 2 ^ 2124 := by rw [show (2126 : Nat) = 2 + 2124 by rfl, Nat.pow_add]
        _ ≤ _ := Nat.mul_le_mul_left 4 this
    have c2 : (2 : Nat) ^ 2126 ≤ 2 ^ (108 + 2 * k) := by
      refine Nat.le_trans c1 (Nat.le_trans up (Nat.le_trans (Nat.mul_le_mul_right _ b1) ?_))
      rw [← pow_sq, ← Nat.pow_add, ← Nat.pow_add]
      exact Nat.pow_le_pow_right (by decide) (by omega)
    have := (Nat.pow_le_pow_iff_right (by decide : 1 < 2)).mp c2
    omega
  have hq2 : 2 ^ 52 ≤ q := by omega
  have ht0 : 0 < t := by omega
  have lo := hlo (t - 1) (by omega)
  have hVm : (q - 1) * 2 ^ k ≤ V (t - 1) := by
    rcases Nat.lt_or_ge (2 ^ 52) q with g | g
    · have := V_at (k := k) (q := q - 1) (by omega) (by omega)
      rw [← this, show t - 1 = k * 2 ^ 52 + (q - 1) by omega]
      exact Nat.le_refl _
    · have hqe : q = 2 ^ 52 := by omega
      obtain ⟨k', rfl⟩ : ∃ k', k = k' + 1 := ⟨k - 1, by omega⟩
      have := V_at (k := k') (q := 2 ^ 53 - 1) (by omega) (by omega)
      rw [show t - 1 = k' * 2 ^ 52 + (2 ^ 53 - 1) by omega, this, hqe]
      have e2 : (2 : Nat) ^ (k' + 1) = 2 * 2 ^ k' := by rw [Nat.pow_add, Nat.mul_comm]
      rw [e2, ← Nat.mul_assoc]
      exact Nat.mul_le_mul_right _ (by decide)
  have lo2 : (2 * q - 1) * (2 * q - 1) * (2 ^ k * 2 ^ k) ≤ 4 * ((val z).natAbs * 2 ^ 1074) := by
    have c : (2 * q - 1) * 2 ^ k ≤ V t + V (t - 1) := by
      rw [hV]
      refine Nat.le_trans (Nat.le_of_eq ?_) (Nat.add_le_add_left hVm _)
      rw [← Nat.add_mul, show q + (q - 1) = 2 * q - 1 by omega]
    refine Nat.le_trans (Nat.le_of_eq ?_) (Nat.le_trans (Nat.mul_le_mul c c) lo)
    ac_rfl
  have hk2 : k ≤ 1045 := by
    have c3 : 2 ^ 105 ≤ (2 * q - 1) * (2 * q - 1) := by
      refine Nat.le_trans ?_ (Nat.mul_le_mul (show 2 ^ 53 - 1 ≤ 2 * q - 1 by omega) (show 2 ^ 53 - 1 ≤ 2 * q - 1 by omega))
      decide
    have c4 : 4 * ((val z).natAbs * 2 ^ 1074) ≤ 2 ^ 2196 := by
      have := Nat.mul_le_mul_right (2 ^ 1074) hn2
      rw [← Nat.pow_add] at this
      calc _ ≤ 4 * 2 ^ 2194 := Nat.mul_le_mul_left 4 this
        _ = 2 ^ 2196 := by rw [show (2196 : Nat) = 2 + 2194 by rfl, Nat.pow_add]
    have c5 : (2 : Nat) ^ (105 + 2 * k) ≤ 2 ^ 2196 := by
      rw [Nat.pow_add, pow_sq]
      exact Nat.le_trans (Nat.mul_le_mul_right _ c3) (Nat.le_trans lo2 c4)
    have := (Nat.pow_le_pow_iff_right (by decide : 1 < 2)).mp c5
    omega
  refine ⟨q, k, hq2, hq, hk1, hk2, ?_, lo2, up⟩
  obtain ⟨m', e', hd', _⟩ := decode_pack false hlt
  rw [ht]
  refine ⟨⟨_, _, _, hd'⟩, ?_⟩
  rw [val_pack false hlt, hV]; unfold sgn; simp
theorem IsF.dvd {x : UInt64} (h : IsF x) {c : Nat} (hb : (val x).natAbs ≤ 2 ^ 1980) (h1 : 2 ^ 54 * 2 ^ c ≤ (val x).natAbs) : ∃ s : Int, val x = s * (2 ^ (c + 1) : Nat) := by
  obtain ⟨d, p, hd, hp, hE⟩ := h.toE hb
  rw [hE.2, Int.natAbs_mul, Int.natAbs_natCast] at h1
  have h2 : 2 ^ 54 * 2 ^ c ≤ 2 ^ 53 * 2 ^ d := Nat.le_trans h1 (Nat.mul_le_mul_right _ hp)
  rw [← Nat.pow_add, ← Nat.pow_add] at h2
  have := (Nat.pow_le_pow_iff_right (by decide : 1 < 2)).mp h2
  refine ⟨p * (2 ^ (d - (c + 1)) : Nat), ?_⟩
  rw [hE.2, Int.mul_assoc, ← Int.natCast_mul, ← Nat.pow_add, show d - (c + 1) + (c + 1) = d by omega]
theorem dlSum_zl {a b : UInt64} (ha : IsF a) (h0 : val a = 0) (hb : IsF b) (b2 : (val b).natAbs ≤ 2 ^ 1900) :
    IsF (Builtin.Math.dlSum a b).1 ∧ val (Builtin.Math.dlSum a b).1 = val b ∧ IsF (Builtin.Math.dlSum a b).2 ∧ val (Builtin.Math.dlSum a b).2 = 0 := by
  have hlt : (2 : Nat) ^ 1900 ≤ 2 ^ 1980 := Nat.pow_le_pow_right (by decide) (by decide)
  obtain ⟨x1, x2⟩ := (isF_add ha hb).self hb (by rw [h0]; omega) (by omega)
  obtain ⟨r1, r2, r3, r4⟩ := dlSum_of ha hb x1 (by rw [x2, h0]; omega) (by rw [h0]; exact Nat.zero_le _) b2
  exact ⟨r1, by rw [r2, h0]; omega, r3, r4⟩
theorem dlSum_zr {a b : UInt64} (ha : IsF a) (h0 : val b = 0) (hb : IsF b) (b2 : (val a).natAbs ≤ 2 ^ 1900) :
    IsF (Builtin.Math.dlSum a b).1 ∧ val (Builtin.Math.dlSum a b).1 = val a ∧ IsF (Builtin.Math.dlSum a b).2 ∧ val (Builtin.Math.dlSum a b).2 = 0 := by
  have hlt : (2 : Nat) ^ 1900 ≤ 2 ^ 1980 := Nat.pow_le_pow_right (by decide) (by decide)
  obtain ⟨x1, x2⟩ := (isF_add ha hb).self ha (by rw [h0]; omega) (by omega)
  obtain ⟨r1, r2, r3, r4⟩ := dlSum_of ha hb x1 (by rw [x2, h0]; omega) b2 (by rw [h0]; exact Nat.zero_le _)
  exact ⟨r1, by rw [r2, h0]; omega, r3, r4⟩
theorem add00 {a b : UInt64} (ha : IsF a) (hb : IsF b) (h1 : val a = 0) (h2 : val b = 0) : IsF (Float64.add a b) ∧ val (Float64.add a b) = 0 := by
  obtain ⟨f, g⟩ := (isF_add ha hb).exact (q := 0) (c := 0) (by decide) (by rw [h1, h2]; simp) (by decide)
  exact ⟨f, by rw [g]; simp⟩
/-- the first turn of the exact product sum: it holds the product and its rest -/
theorem tlFma_first {x y a b c : UInt64} (ha : IsF a) (hb : IsF b) (hc : IsF c) (h1 : val a = 0) (h2 : val b = 0) (h3 : val c = 0) (hz : IsF (Float64.mul x y)) (he : IsF (Float64.fma x y (Float64.neg (Float64.mul x y))))
    (bz : (val (Float64.mul x y)).natAbs ≤ 2 ^ 1900) (be : (val (Float64.fma x y (Float64.neg (Float64.mul x y)))).natAbs ≤ 2 ^ 1900) :
    ∃ t1 t2 t3, Builtin.Math.tlFma x y (a, b, c) = (t1, t2, t3) ∧ IsF t1 ∧ IsF t2 ∧ IsF t3 ∧ val t1 = val (Float64.mul x y) ∧ val t2 = val (Float64.fma x y (Float64.neg (Float64.mul x y))) ∧ val t3 = 0 := by
  obtain ⟨s1, s2, s3, s4⟩ := dlSum_zl ha h1 hz bz
  obtain ⟨r1, r2, r3, r4⟩ := dlSum_zl hb h2 he be
  obtain ⟨u1, u2, u3, u4⟩ := dlSum_zr r1 s4 s3 (by rw [r2]; exact be)
  obtain ⟨v1, v2⟩ := add00 hc r3 h3 r4
  obtain ⟨w1, w2⟩ := add00 v1 u3 v2 u4
  exact ⟨_, _, _, rfl, s1, u1, w1, s2, u2.trans r2, w2⟩
end Mine
end
section
open PySem PySem.Float64
set_option Elab.async false
set_option maxRecDepth 100000
set_option exponentiation.threshold 3000
namespace Mine
theorem val_one : IsF 4607182418800017408 ∧ val 4607182418800017408 = 2 ^ 1074 := by
  have h : decode 4607182418800017408 = .fin false (2 ^ 52) (-52) := by with_unfolding_all rfl
  refine ⟨⟨_, _, _, h⟩, ?_⟩
  rw [val_eq h]
  show ((2 ^ 52 * 2 ^ (-52 + 1074 : Int).toNat : Nat) : Int) = 2 ^ 1074
  rw [← Nat.pow_add, Int.natCast_pow]
  rfl
theorem abs_val {x : UInt64} (h : IsF x) : IsF (Float64.abs x) ∧ val (Float64.abs x) = (val x).natAbs := by
  obtain ⟨a, m, e, hd⟩ := id h
  have hn := h.notNaN
  have key : decode (Float64.abs x) = .fin false m e := by
    unfold Float64.abs
    rw [hn]
    simp only [Bool.false_eq_true, if_false]
    have hlt := pack_toNat false (t := x.toNat % 2 ^ 63) (by omega)
    unfold decode at hd ⊢
    rw [hlt]
    simp only [Bool.false_eq_true, if_false, Nat.zero_add] at hd ⊢
    have e1 : x.toNat % 2 ^ 63 / 2 ^ 52 % 2048 = x.toNat / 2 ^ 52 % 2048 := by omega
    have e2 : x.toNat % 2 ^ 63 % 2 ^ 52 = x.toNat % 2 ^ 52 := by omega
    have e3 : x.toNat % 2 ^ 63 / 2 ^ 63 = 0 := by omega
    rw [e1, e2, e3]
    split at hd
    · split at hd <;> cases hd
    · rename_i h1
      rw [if_neg h1]
      split at hd
      · rename_i h2
        rw [if_pos h2]
        cases hd; rfl
      · rename_i h2
        rw [if_neg h2]
        cases hd; rfl
  refine ⟨⟨_, _, _, key⟩, ?_⟩
  rw [val_eq key, val_natAbs hd]; rfl
theorem cmp_abs_one {r : UInt64} (h : IsF r) (hv : val r = 2 ^ 1074 ∨ val r = -2 ^ 1074) : (Float64.cmp (Float64.abs r) 4607182418800017408 == some Ordering.eq) = true := by
  obtain ⟨⟨a, m, e, hd⟩, hv2⟩ := abs_val h
  obtain ⟨⟨b, k, f, hd2⟩, hv3⟩ := val_one
  rw [cmp_right hd hd2, hv2, hv3]
  have : ((val r).natAbs : Int) = 2 ^ 1074 := by
    rcases hv with q | q
    · rw [q]; rfl
    · rw [q]; rfl
  rw [this]
  rw [Int.compare_eq_eq.mpr rfl]
  rfl
end Mine
end
section
open PySem PySem.Float64
set_option Elab.async false
set_option maxRecDepth 100000
set_option exponentiation.threshold 3000
namespace Mine
/-- a value near a real number that is given in units of 2^j -/
theorem NearI.unit {r : UInt64} {Z z : Int} {D j : Nat} (h : NearI r Z D) (hZ : Z = D * z) (hj : j ≤ 2000) (hb : z.natAbs ≤ 2 ^ 57 * 2 ^ j) : IsF r ∧ (z - val r).natAbs ≤ 8 * 2 ^ j := by
  have hD := h.1
  obtain ⟨h1, h2⟩ := h.near (c := j + 4) (by omega) (by
    rw [hZ, Int.natAbs_mul, Int.natAbs_natCast, p55]; exact Nat.mul_le_mul_left _ hb)
  refine ⟨h1, ?_⟩
  rw [hZ, ← Int.mul_sub, Int.natAbs_mul, Int.natAbs_natCast, Nat.pow_add] at h2
  have h3 : D * (2 * (z - val r).natAbs) ≤ D * (2 ^ j * 2 ^ 4) := by rw [Nat.mul_left_comm]; exact h2
  have := Nat.le_of_mul_le_mul_left h3 hD
  omega
theorem NearI.relu {r : UInt64} {Z z : Int} {D : Nat} (h : NearI r Z D) (hZ : Z = D * z) (h1 : 2 ^ 52 ≤ z.natAbs) (h2 : z.natAbs ≤ 2 ^ 2000) : IsF r ∧ 2 ^ 53 * (z - val r).natAbs ≤ z.natAbs := by
  have hD := h.1
  have e : Z.natAbs = D * z.natAbs := by rw [hZ, Int.natAbs_mul, Int.natAbs_natCast]
  obtain ⟨f, g⟩ := h.rel (by rw [e]; exact Nat.mul_le_mul_left _ h1) (by rw [e]; exact Nat.mul_le_mul_left _ h2)
  refine ⟨f, ?_⟩
  rw [e, hZ, ← Int.mul_sub, Int.natAbs_mul, Int.natAbs_natCast] at g
  have g2 : D * (2 ^ 53 * (z - val r).natAbs) ≤ D * z.natAbs := by rw [Nat.mul_left_comm]; exact g
  exact Nat.le_of_mul_le_mul_left g2 hD
theorem third_arith {t3 r q y W : Int} {u : Nat} (v3 : t3 = 0) (r4 : r.natAbs ≤ 40 * u) (w2 : (t3 + r - W).natAbs ≤ 8 * u) (u4 : q = 0) (y2 : (W + q - y).natAbs ≤ 8 * u) : W.natAbs ≤ 2 ^ 57 * u ∧ y.natAbs ≤ 56 * u := by
  obtain ⟨a1, a2⟩ := two_sided r4
  obtain ⟨a3, a4⟩ := two_sided w2
  obtain ⟨a5, a6⟩ := two_sided y2
  clear r4 w2 y2
  exact ⟨of_two (by omega) (by omega), of_two (by omega) (by omega)⟩
theorem third_room {t3 r : Int} {u : Nat} (v3 : t3 = 0) (r4 : r.natAbs ≤ 40 * u) : (t3 + r).natAbs ≤ 2 ^ 57 * u := by
  obtain ⟨a1, a2⟩ := two_sided r4
  clear r4
  exact of_two (by omega) (by omega)
theorem fourth_room {W q t3 r : Int} {u : Nat} (v3 : t3 = 0) (r4 : r.natAbs ≤ 40 * u) (w2 : (t3 + r - W).natAbs ≤ 8 * u) (u4 : q = 0) : (W + q).natAbs ≤ 2 ^ 57 * u := by
  obtain ⟨a1, a2⟩ := two_sided r4
  obtain ⟨a3, a4⟩ := two_sided w2
  clear r4 w2
  exact of_two (by omega) (by omega)
theorem end_room {a b T1 T2 : Int} {u : Nat} (c2 : T1 = a) (b5 : a.natAbs ≤ 2 ^ 55 * u) (b6 : b.natAbs ≤ (2 ^ 54 + 100) * u) (c4 : (b - T2).natAbs ≤ 8 * u) : T2.natAbs ≤ 2 ^ 55 * u ∧ T1.natAbs ≤ 2 ^ 55 * u := by
  obtain ⟨a1, a2⟩ := two_sided b6
  obtain ⟨a3, a4⟩ := two_sided c4
  clear b6 c4
  exact ⟨of_two (by omega) (by omega), c2 ▸ b5⟩
theorem end_arith {a b T1 T2 T3 l1 l2 n1 m1 : Int} {u : Nat} (c2 : T1 = a) (b5 : a.natAbs ≤ 2 ^ 55 * u) (b6 : b.natAbs ≤ (2 ^ 54 + 100) * u) (c4 : (b - T2).natAbs ≤ 8 * u) (c6 : T3.natAbs ≤ 56 * u) (h1 : (T2 + T1 - l1).natAbs ≤ 8 * u) (h2 : l2.natAbs ≤ 40 * u) :
    (T3 + l2).natAbs ≤ 2 ^ 57 * u ∧ ((T3 + l2 - m1).natAbs ≤ 8 * u → (m1 + l1).natAbs ≤ 2 ^ 57 * u ∧ ((m1 + l1 - n1).natAbs ≤ 8 * u → (a + b - n1).natAbs ≤ 200 * u)) := by
  obtain ⟨a1, a2⟩ := two_sided b6
  obtain ⟨a3, a4⟩ := two_sided c4
  obtain ⟨a5, a6⟩ := two_sided c6
  obtain ⟨a7, a8⟩ := two_sided h1
  obtain ⟨a9, d1⟩ := two_sided h2
  obtain ⟨d2, d3⟩ := two_sided b5
  clear b6 c4 c6 h1 h2 b5
  refine ⟨of_two (by omega) (by omega), fun h => ?_⟩
  obtain ⟨d4, d5⟩ := two_sided h
  clear h
  refine ⟨of_two (by omega) (by omega), fun h => ?_⟩
  obtain ⟨d6, d7⟩ := two_sided h
  clear h
  exact of_two (by omega) (by omega)
/-- the second turn and the joining: what is left of x*y - h*h -/
theorem tlFma_second {h g t1 t2 t3 : UInt64} {j : Nat} (hj : j ≤ 1100) (f1 : IsF t1) (f2 : IsF t2) (f3 : IsF t3) (v3 : val t3 = 0) (hz : IsF (Float64.mul h g)) (he : IsF (Float64.fma h g (Float64.neg (Float64.mul h g))))
    (hx : IsF (Float64.add t1 (Float64.mul h g))) (hv : val (Float64.add t1 (Float64.mul h g)) = val t1 + val (Float64.mul h g))
    (b1 : (val t1).natAbs ≤ 2 ^ 110 * 2 ^ j) (b2 : (val (Float64.mul h g)).natAbs ≤ 2 ^ 110 * 2 ^ j) (b3 : (val t2).natAbs ≤ 2 ^ 55 * 2 ^ j) (b4 : (val (Float64.fma h g (Float64.neg (Float64.mul h g)))).natAbs ≤ 2 ^ 55 * 2 ^ j)
    (b5 : (val t1 + val (Float64.mul h g)).natAbs ≤ 2 ^ 55 * 2 ^ j) (b6 : (val t2 + val (Float64.fma h g (Float64.neg (Float64.mul h g)))).natAbs ≤ (2 ^ 54 + 100) * 2 ^ j) :
    IsF (Builtin.Math.tlFma h g (t1, t2, t3)).1 ∧ IsF (Builtin.Math.tlToFloat (Builtin.Math.tlFma h g (t1, t2, t3))) ∧
    (val t1 + val (Float64.mul h g) + (val t2 + val (Float64.fma h g (Float64.neg (Float64.mul h g)))) - val (Builtin.Math.tlToFloat (Builtin.Math.tlFma h g (t1, t2, t3)))).natAbs ≤ 200 * 2 ^ j := by
  have hp : 0 < 2 ^ j := Nat.two_pow_pos j
  have hbig : 2 ^ 110 * 2 ^ j ≤ 2 ^ 1900 := by
    rw [← Nat.pow_add]; exact Nat.pow_le_pow_right (by decide) (by omega)
  obtain ⟨s1, s2, s3, s4⟩ := dlSum_of f1 hz hx hv (Nat.le_trans b1 hbig) (Nat.le_trans b2 hbig)
  obtain ⟨r1, r2, r3, r4⟩ := dlSum_near f2 he (j := j) (by omega) b3 b4
  obtain ⟨u1, u2, u3, u4⟩ := dlSum_zr r1 s4 s3 (by refine Nat.le_trans ?_ hbig; omega)
  obtain ⟨w1, w2⟩ := add_near f3 r3 (j := j) (by omega) (third_room v3 r4)
  obtain ⟨y1, y2⟩ := add_near w1 u3 (j := j) (by omega) (fourth_room v3 r4 w2 u4)
  refine ⟨s1, ?_⟩
  generalize hT : Builtin.Math.tlFma h g (t1, t2, t3) = T
  have e1 : T.1 = (Builtin.Math.dlSum t1 (Float64.mul h g)).1 := by rw [← hT]; rfl
  have e2 : T.2.1 = (Builtin.Math.dlSum (Builtin.Math.dlSum t2 (Float64.fma h g (Float64.neg (Float64.mul h g)))).1 (Builtin.Math.dlSum t1 (Float64.mul h g)).2).1 := by rw [← hT]; rfl
  have e3 : T.2.2 = Float64.add (Float64.add t3 (Builtin.Math.dlSum t2 (Float64.fma h g (Float64.neg (Float64.mul h g)))).2) (Builtin.Math.dlSum (Builtin.Math.dlSum t2 (Float64.fma h g (Float64.neg (Float64.mul h g)))).1 (Builtin.Math.dlSum t1 (Float64.mul h g)).2).2 := by rw [← hT]; rfl
  obtain ⟨T1, T2, T3⟩ := T
  dsimp only at e1 e2 e3
  have q1 : IsF T1 ∧ val T1 = val t1 + val (Float64.mul h g) := by rw [e1]; exact ⟨s1, s2⟩
  have q2 : IsF T2 ∧ (val t2 + val (Float64.fma h g (Float64.neg (Float64.mul h g))) - val T2).natAbs ≤ 8 * 2 ^ j := by
    rw [e2]; refine ⟨u1, ?_⟩
    rw [u2]; exact r2
  have q3 : IsF T3 ∧ (val T3).natAbs ≤ 56 * 2 ^ j := by
    rw [e3]; exact ⟨y1, (third_arith v3 r4 w2 u4 y2).2⟩
  obtain ⟨c1, c2⟩ := q1
  obtain ⟨c3, c4⟩ := q2
  obtain ⟨c5, c6⟩ := q3
  clear e1 e2 e3 hT y2 w2 r2 r4 s4 u4 s2 u2
  have hr := end_room c2 b5 b6 c4
  obtain ⟨l1, l2, l3, l4⟩ := dlSum_near c3 c1 (j := j) (by omega) hr.1 hr.2
  have R := fun n m => end_arith (n1 := n) (m1 := m) c2 b5 b6 c4 c6 l2 l4
  obtain ⟨m1, m2⟩ := add_near c5 l3 (j := j) (by omega) (R 0 0).1
  obtain ⟨n1, n2⟩ := add_near m1 l1 (j := j) (by omega) ((R 0 _).2 m2).1
  exact ⟨n1, ((R _ _).2 m2).2 n2⟩
end Mine
end
section
open PySem PySem.Float64
set_option Elab.async false
set_option maxRecDepth 100000
set_option exponentiation.threshold 3000
namespace Mine
theorem nat_of_le {a b : Int} (h : a.natAbs ≤ b) : -b ≤ a ∧ a ≤ b := by omega
theorem abs_right {X Y : Int} {c d : Nat} (h : (X - Y).natAbs ≤ c) (h2 : X.natAbs ≤ d) : Y.natAbs ≤ c + d := by
  obtain ⟨a1, a2⟩ := two_sided h
  obtain ⟨a3, a4⟩ := two_sided h2
  clear h h2
  exact of_two (by omega) (by omega)
theorem abs_add {X Y : Int} {c d : Nat} (h : X.natAbs ≤ c) (h2 : Y.natAbs ≤ d) : (X + Y).natAbs ≤ c + d := Nat.le_trans (Int.natAbs_add_le X Y) (Nat.add_le_add h h2)
theorem abs_sub {X Y : Int} {c d : Nat} (h : X.natAbs ≤ c) (h2 : Y.natAbs ≤ d) : (X - Y).natAbs ≤ c + d := by
  rw [Int.sub_eq_add_neg]
  exact abs_add h (by rw [Int.natAbs_neg]; exact h2)
theorem cv_arith {c K : Nat} (e3 : 2 ^ 53 * c ≤ 260 * K + (2 ^ 54 + 16) * K) : c ≤ 3 * K := by omega
theorem s_arith {qK c s : Int} {K qn : Nat} (hq : qK = (qn : Int)) (e4 : 2 ^ 52 * K ≤ qn) (h1 : c.natAbs ≤ 3 * K) (h2 : (qK + c - s).natAbs ≤ K) : ((2 ^ 51 * K : Nat) : Int) ≤ s ∧ (s - qK).natAbs ≤ 4 * K ∧ (s - qK - c).natAbs ≤ K := by
  obtain ⟨a1, a2⟩ := two_sided h1
  obtain ⟨a3, a4⟩ := two_sided h2
  clear h1 h2
  exact ⟨by omega, of_two (by omega) (by omega), of_two (by omega) (by omega)⟩
theorem eq_add_of {s a f : Int} (h : s - a = f) : s = a + f := by omega
theorem big_enough {q r : Nat} {N : Int} (hq : 2 ^ 52 ≤ q) (h : 2 ^ 52 * q ≤ r) (hN : (N - (r : Int)).natAbs ≤ 2 ^ 54 + 16) : 2 ^ 60 * (2 * q + 276) ≤ 516 * N.natAbs := by
  have h1 : r ≤ N.natAbs + (2 ^ 54 + 16) := by omega
  omega
theorem final_arith {q K : Nat} {N cv s : Int} (hK : 0 < K) (hq : 2 ^ 52 ≤ q) (hq2 : q < 2 ^ 53) (hN : (N - ((q * q : Nat) : Int)).natAbs ≤ 2 ^ 54 + 16)
    (h1 : ((N - ((q * q : Nat) : Int)) * (K : Int) - 2 * (q : Int) * cv).natAbs ≤ 260 * K) (h2 : (((q * K : Nat) : Int) + cv - s).natAbs ≤ K) :
    cv.natAbs ≤ 3 * K ∧ ((2 ^ 51 * K : Nat) : Int) ≤ s ∧ 2 ^ 60 * (s * s - N * ((K * K : Nat) : Int)).natAbs ≤ 516 * (N * ((K * K : Nat) : Int)).natAbs := by
  have e1 : (2 * (q : Int) * cv).natAbs = 2 * q * cv.natAbs := by rw [Int.natAbs_mul, Int.natAbs_mul]; rfl
  have e2 : ((N - ((q * q : Nat) : Int)) * (K : Int)).natAbs ≤ (2 ^ 54 + 16) * K := by
    rw [Int.natAbs_mul, Int.natAbs_natCast]; exact Nat.mul_le_mul_right _ hN
  have e3 : 2 ^ 53 * cv.natAbs ≤ 2 * q * cv.natAbs := Nat.mul_le_mul_right _ (by omega)
  have hcv : cv.natAbs ≤ 3 * K := cv_arith (Nat.le_trans e3 (by rw [← e1]; exact abs_right h1 e2))
  have e4 : 2 ^ 52 * K ≤ q * K := Nat.mul_le_mul_right _ hq
  obtain ⟨hs, hf, hfc⟩ := s_arith rfl e4 hcv h2
  refine ⟨hcv, hs, ?_⟩
  obtain ⟨f, hfe⟩ : ∃ f, s - ((q * K : Nat) : Int) = f := ⟨_, rfl⟩
  rw [hfe] at hf hfc
  obtain rfl : s = ((q * K : Nat) : Int) + f := eq_add_of hfe
  clear hfe h2 hs
  have e5 : (2 * (q : Int) * (f - cv)).natAbs ≤ 2 * q * K := by
    rw [Int.natAbs_mul, Int.natAbs_mul]; exact Nat.mul_le_mul_left _ hfc
  have e6 : 2 * (q : Int) * (f - cv) = 2 * (q : Int) * f - 2 * (q : Int) * cv := Int.mul_sub _ _ _
  have hW : (2 * (q : Int) * f - (N - ((q * q : Nat) : Int)) * (K : Int)).natAbs ≤ (2 * q + 260) * K := by
    have e7 : 2 * (q : Int) * f - (N - ((q * q : Nat) : Int)) * (K : Int) = 2 * (q : Int) * (f - cv) - ((N - ((q * q : Nat) : Int)) * (K : Int) - 2 * (q : Int) * cv) := by rw [e6]; omega
    rw [e7, Nat.add_mul]
    exact abs_sub e5 h1
  have key : (((q * K : Nat) : Int) + f) * (((q * K : Nat) : Int) + f) - N * ((K * K : Nat) : Int) = (K : Int) * (2 * (q : Int) * f - (N - ((q * q : Nat) : Int)) * (K : Int)) + f * f := by
    push_cast
    grind
  have e7 : ((K : Int) * (2 * (q : Int) * f - (N - ((q * q : Nat) : Int)) * (K : Int))).natAbs ≤ (2 * q + 260) * (K * K) := by
    rw [Int.natAbs_mul, Int.natAbs_natCast]
    refine Nat.le_trans (Nat.mul_le_mul_left K hW) (Nat.le_of_eq (by ac_rfl))
  have e8 : (f * f).natAbs ≤ 16 * (K * K) := by
    rw [Int.natAbs_mul]
    exact Nat.le_trans (Nat.mul_le_mul hf hf) (Nat.le_of_eq (by rw [show (16 : Nat) = 4 * 4 by rfl]; ac_rfl))
  have e9 : ((((q * K : Nat) : Int) + f) * (((q * K : Nat) : Int) + f) - N * ((K * K : Nat) : Int)).natAbs ≤ (2 * q + 276) * (K * K) := by
    rw [key, show 2 * q + 276 = 2 * q + 260 + 16 by omega, Nat.add_mul]
    exact abs_add e7 e8
  have hqq : 2 ^ 52 * q ≤ q * q := Nat.mul_le_mul_right _ hq
  have hNn : 2 ^ 60 * (2 * q + 276) ≤ 516 * N.natAbs := big_enough hq hqq hN
  rw [Int.natAbs_mul, Int.natAbs_natCast]
  calc _ ≤ 2 ^ 60 * ((2 * q + 276) * (K * K)) := Nat.mul_le_mul_left _ e9
    _ = 2 ^ 60 * (2 * q + 276) * (K * K) := by rw [Nat.mul_assoc]
    _ ≤ 516 * N.natAbs * (K * K) := Nat.mul_le_mul_right _ hNn
    _ = _ := by rw [Nat.mul_assoc]
theorem final_line {q K : Nat} {N cv S : Int} (hK : 0 < K) (hq : 2 ^ 52 ≤ q) (hcv : cv.natAbs ≤ 3 * K)
    (h1 : ((N - ((q * q : Nat) : Int)) * (K : Int) - 2 * (q : Int) * cv).natAbs ≤ 260 * K) (hS : 0 ≤ S) (h2 : S * S = N * ((K * K : Nat) : Int)) :
    2 ^ 42 * (((q * K : Nat) : Int) + cv - S).natAbs ≤ K := by
  have e4 : 2 ^ 52 * K ≤ q * K := Nat.mul_le_mul_right _ hq
  have key : (((q * K : Nat) : Int) + cv - S) * (((q * K : Nat) : Int) + cv + S) = (K : Int) * (2 * (q : Int) * cv - (N - ((q * q : Nat) : Int)) * (K : Int)) + cv * cv := by
    have : (((q * K : Nat) : Int) + cv - S) * (((q * K : Nat) : Int) + cv + S) = (((q * K : Nat) : Int) + cv) * (((q * K : Nat) : Int) + cv) - S * S := by grind
    rw [this, h2]
    push_cast
    grind
  have e7 : ((K : Int) * (2 * (q : Int) * cv - (N - ((q * q : Nat) : Int)) * (K : Int))).natAbs ≤ 260 * (K * K) := by
    rw [Int.natAbs_mul, Int.natAbs_natCast]
    refine Nat.le_trans (Nat.mul_le_mul_left K (show _ ≤ 260 * K by omega)) (Nat.le_of_eq (by ac_rfl))
  have e8 : (cv * cv).natAbs ≤ 9 * (K * K) := by
    rw [Int.natAbs_mul]
    exact Nat.le_trans (Nat.mul_le_mul hcv hcv) (Nat.le_of_eq (by rw [show (9 : Nat) = 3 * 3 by rfl]; ac_rfl))
  have e9 : (((q * K : Nat) : Int) + cv - S).natAbs * (((q * K : Nat) : Int) + cv + S).natAbs ≤ 269 * (K * K) := by
    rw [← Int.natAbs_mul, key]; omega
  have e10 : 2 ^ 51 * K ≤ (((q * K : Nat) : Int) + cv + S).natAbs := by omega
  have e11 : (((q * K : Nat) : Int) + cv - S).natAbs * 2 ^ 51 * K ≤ 269 * K * K := by
    rw [Nat.mul_assoc, Nat.mul_assoc]
    exact Nat.le_trans (Nat.mul_le_mul_left _ e10) e9
  have := Nat.le_of_mul_le_mul_right e11 hK
  omega
end Mine
end
section
open PySem PySem.Float64
set_option Elab.async false
set_option maxRecDepth 100000
set_option exponentiation.threshold 3000
set_option maxHeartbeats 1000000
namespace Mine
theorem val_two : E 1075 4611686018427387904 1 := by
  have h : decode 4611686018427387904 = .fin false (2 ^ 52) (-51) := by with_unfolding_all rfl
  refine ⟨⟨_, _, _, h⟩, ?_⟩
  rw [val_eq h]
  show ((2 ^ 52 * 2 ^ (-51 + 1074 : Int).toNat : Nat) : Int) = 1 * ((2 ^ 1075 : Nat) : Int)
  rw [← Nat.pow_add, Int.one_mul]
  rfl
/-- the plain facts about the root's place -/
theorem root_nat {q ζ Nu u : Nat} (_hu : 0 < u) (hq : 2 ^ 52 ≤ q) (hq2 : q < 2 ^ 53) (h1 : (2 * q - 1) * (2 * q - 1) * u ≤ 4 * ζ) (h2 : 4 * ζ ≤ (2 * q + 1) * (2 * q + 1) * u) (h3 : 2 ^ 53 * ((Nu : Int) - (ζ : Int)).natAbs ≤ Nu) :
    4 * (q * q * u) + u ≤ 4 * ζ + 4 * (q * u) ∧ 4 * ζ ≤ 4 * (q * q * u) + 4 * (q * u) + u ∧ 2 ^ 52 * u ≤ q * u ∧ q * u ≤ 2 ^ 53 * u ∧ 2 ^ 52 * (q * u) ≤ q * q * u ∧ q * q * u ≤ 2 ^ 53 * (q * u) ∧ ((Nu : Int) - (ζ : Int)).natAbs ≤ (2 ^ 53 + 8) * u := by
  have a1 : (2 * q - 1) * (2 * q - 1) * u + 4 * (q * u) = 4 * (q * q * u) + u := by
    obtain ⟨r, rfl⟩ : ∃ r, q = r + 1 := ⟨q - 1, by omega⟩
    rw [show 2 * (r + 1) - 1 = 2 * r + 1 by omega]
    grind
  have a2 : (2 * q + 1) * (2 * q + 1) * u = 4 * (q * q * u) + 4 * (q * u) + u := by grind
  have a3 : 2 ^ 52 * u ≤ q * u := Nat.mul_le_mul_right _ hq
  have a4 : q * u ≤ 2 ^ 53 * u := Nat.mul_le_mul_right _ (by omega)
  have a5 : 2 ^ 52 * (q * u) ≤ q * q * u := by rw [Nat.mul_assoc q]; exact Nat.mul_le_mul_right _ hq
  have a6 : q * q * u ≤ 2 ^ 53 * (q * u) := by rw [Nat.mul_assoc q]; exact Nat.mul_le_mul_right _ (by omega)
  generalize q * q * u = qqu at *
  generalize q * u = qu at *
  refine ⟨by omega, by omega, a3, a4, a5, a6, ?_⟩
  omega
end Mine
end
section
open PySem PySem.Float64
set_option Elab.async false
set_option maxRecDepth 100000
set_option exponentiation.threshold 3000
set_option maxHeartbeats 1000000
namespace Mine
theorem cancelT {T a b : Nat} (hT : 0 < T) (h : T * a ≤ T * b) : a ≤ b := Nat.le_of_mul_le_mul_left h hT
theorem rest_bounds {n0 qqu qu u ζn : Nat} {ζ z2 e1 e2 : Int} (hz : (ζn : Int) = ζ) (b1 : 4 * qqu + u ≤ 4 * ζn + 4 * qu) (b2 : 4 * ζn ≤ 4 * qqu + 4 * qu + u) (b3 : 2 ^ 52 * u ≤ qu) (b4 : qu ≤ 2 ^ 53 * u) (b5 : 2 ^ 52 * qu ≤ qqu) (b6 : qqu ≤ 2 ^ 53 * qu) (b7 : ((n0 : Int) - ζ).natAbs ≤ (2 ^ 53 + 8) * u)
    (g2 : 2 ^ 53 * (-(qqu : Int) - z2).natAbs ≤ qqu) (ge1 : ((n0 : Int) - ζ - e1).natAbs ≤ 8 * u) (ge2 : (-(qqu : Int) - z2 - e2).natAbs ≤ 8 * u) :
    ζ.natAbs ≤ 2 ^ 110 * u ∧ z2.natAbs ≤ 2 ^ 110 * u ∧ e1.natAbs ≤ 2 ^ 55 * u ∧ e2.natAbs ≤ 2 ^ 55 * u ∧ (e1 + e2).natAbs ≤ (2 ^ 54 + 100) * u ∧ (ζ + z2).natAbs ≤ 2 ^ 55 * u ∧ 2 ^ 94 * u ≤ ζ.natAbs ∧ 2 ^ 94 * u ≤ z2.natAbs ∧ ((n0 : Int) - (qqu : Int)).natAbs ≤ (2 ^ 54 + 16) * u ∧ (ζ + z2 + (e1 + e2) - (n0 - qqu)).natAbs ≤ 16 * u := by
  have g3 : (-(qqu : Int) - z2).natAbs ≤ 2 ^ 53 * u := by omega
  obtain ⟨c1, c2⟩ := two_sided b7
  obtain ⟨c3, c4⟩ := two_sided g3
  obtain ⟨c5, c6⟩ := two_sided ge1
  obtain ⟨c7, c8⟩ := two_sided ge2
  clear b7 g2 g3 ge1 ge2
  refine ⟨of_two (by omega) (by omega), of_two (by omega) (by omega), of_two (by omega) (by omega), of_two (by omega) (by omega), of_two (by omega) (by omega), of_two (by omega) (by omega), by omega, by omega, of_two (by omega) (by omega), of_two (by omega) (by omega)⟩
theorem last_add {o d : UInt64} {j : Nat} {n0 qqu : Nat} {a : Int} (hu : 0 < 2 ^ j) (hj : j ≤ 2000) (o1 : IsF o) (o2 : val o = 0) (c2 : IsF d) (k9 : ((n0 : Int) - (qqu : Int)).natAbs ≤ (2 ^ 54 + 16) * 2 ^ j) (k10 : (a - (n0 - qqu)).natAbs ≤ 16 * 2 ^ j) (c3 : (a - val d).natAbs ≤ 200 * 2 ^ j) :
    IsF (Float64.add o d) ∧ ((n0 : Int) - (qqu : Int) - val (Float64.add o d)).natAbs ≤ 256 * 2 ^ j := by
  obtain ⟨d1, d2⟩ := add_near o1 c2 (j := j) (by omega) (by rw [o2]; omega)
  rw [o2] at d2
  exact ⟨d1, by omega⟩
/-- the root and what the product sum makes of it, up to the quotient -/
theorem root_rest {x y : UInt64} {n0 : Nat} (fx : IsF x) (fy : IsF y) (hprod : val x * val y = ((2 ^ 1074 : Nat) : Int) * (n0 : Int)) (lo0 : 2 ^ 1052 ≤ n0) (hi0 : n0 ≤ 2 ^ 1114) :
    ∃ q k j : Nat, 2 ^ 52 ≤ q ∧ q < 2 ^ 53 ∧ 1009 ≤ k ∧ k ≤ 1045 ∧ j + 1074 = 2 * k ∧ E k (Float64.sqrt (Float64.mul x y)) q ∧
      ((n0 : Int) - ((q * q * 2 ^ j : Nat) : Int)).natAbs ≤ (2 ^ 54 + 16) * 2 ^ j ∧
      ∃ r, SpRun (Float64.zero false, Float64.zero false, Float64.zero false) [x, Float64.sqrt (Float64.mul x y)] [y, Float64.neg (Float64.sqrt (Float64.mul x y))] r ∧
        IsF (Float64.add (Float64.ofInt 0) (Builtin.Math.tlToFloat r)) ∧ (((n0 : Int) - ((q * q * 2 ^ j : Nat) : Int)) - val (Float64.add (Float64.ofInt 0) (Builtin.Math.tlToFloat r))).natAbs ≤ 256 * 2 ^ j := by
  have hT0 : 0 < 2 ^ 1074 := Nat.two_pow_pos _
  obtain ⟨f1, g1⟩ := (isF_mul fx fy).relu hprod (by rw [Int.natAbs_natCast]; exact Nat.le_trans (Nat.pow_le_pow_right (by decide) (by decide)) lo0) (by rw [Int.natAbs_natCast]; exact Nat.le_trans hi0 (Nat.pow_le_pow_right (by decide) (by decide)))
  rw [Int.natAbs_natCast] at g1
  obtain ⟨q, k, hq, hq2, hk1, hk2, hE, lo, up⟩ := sqrt_spec f1 (by omega) (by omega)
  have hζ : (((val (Float64.mul x y)).natAbs : Nat) : Int) = val (Float64.mul x y) := by omega
  generalize hj : 2 * k - 1074 = j
  have hjk : j + 1074 = 2 * k := by omega
  have hj1 : j ≤ 1016 := by omega
  have hTu : 2 ^ 1074 * 2 ^ j = 2 ^ k * 2 ^ k := by rw [← Nat.pow_add, ← Nat.pow_add]; congr 1; omega
  have hu : 0 < 2 ^ j := Nat.two_pow_pos _
  rw [← hTu] at lo up
  have lo' : (2 * q - 1) * (2 * q - 1) * 2 ^ j ≤ 4 * (val (Float64.mul x y)).natAbs := by
    refine cancelT hT0 ?_
    generalize (2 : Nat) ^ 1074 = T at lo ⊢
    generalize (2 : Nat) ^ j = u at lo ⊢
    calc _ = (2 * q - 1) * (2 * q - 1) * (T * u) := by ac_rfl
      _ ≤ _ := lo
      _ = _ := by ac_rfl
  have up' : 4 * (val (Float64.mul x y)).natAbs ≤ (2 * q + 1) * (2 * q + 1) * 2 ^ j := by
    refine cancelT hT0 ?_
    generalize (2 : Nat) ^ 1074 = T at up ⊢
    generalize (2 : Nat) ^ j = u at up ⊢
    calc _ = 4 * ((val (Float64.mul x y)).natAbs * T) := by ac_rfl
      _ ≤ _ := up
      _ = _ := by ac_rfl
  obtain ⟨b1, b2, b3, b4, b5, b6, b7⟩ := root_nat hu hq hq2 lo' up' (Nu := n0) (by rw [hζ]; exact g1)
  rw [hζ] at b7
  obtain ⟨qu, hqu⟩ : ∃ qu, q * 2 ^ j = qu := ⟨_, rfl⟩
  obtain ⟨qqu, hqqu⟩ : ∃ qqu, q * q * 2 ^ j = qqu := ⟨_, rfl⟩
  rw [hqu, hqqu] at b1 b2 b5 b6
  rw [hqu] at b3 b4
  have hub : 2 ^ 104 * 2 ^ j ≤ 2 ^ 1120 := by rw [← Nat.pow_add]; exact Nat.pow_le_pow_right (by decide) (by omega)
  have hEg := hE.neg
  obtain ⟨h, hh⟩ : ∃ h, Float64.sqrt (Float64.mul x y) = h := ⟨_, rfl⟩
  obtain ⟨z, hz⟩ : ∃ z, Float64.mul x y = z := ⟨_, rfl⟩
  rw [hh] at hE hEg ⊢
  rw [hz] at f1 g1 b1 b2 b7 hζ lo' up'
  have hm2 : val h * val (Float64.neg h) = ((2 ^ 1074 : Nat) : Int) * (-(qqu : Int)) := by
    rw [hE.2, hEg.2, ← hqqu]
    have : ((2 ^ 1074 : Nat) : Int) * ((2 ^ j : Nat) : Int) = ((2 ^ k : Nat) : Int) * ((2 ^ k : Nat) : Int) := by rw [← Int.natCast_mul, ← Int.natCast_mul, hTu]
    rw [Int.natCast_mul, Int.natCast_mul]
    generalize ((2 ^ 1074 : Nat) : Int) = T at *
    generalize ((2 ^ j : Nat) : Int) = u at *
    generalize ((2 ^ k : Nat) : Int) = K at *
    grind
  obtain ⟨f2, g2⟩ := (isF_mul hE.1 hEg.1).relu hm2 (by rw [Int.natAbs_neg, Int.natAbs_natCast]; omega) (by
    rw [Int.natAbs_neg, Int.natAbs_natCast]
    have : (2 : Nat) ^ 1130 ≤ 2 ^ 2000 := Nat.pow_le_pow_right (by decide) (by decide)
    omega)
  rw [Int.natAbs_neg, Int.natAbs_natCast] at g2
  have fe := isF_fma fx fy (isF_neg f1).1
  rw [hprod, (isF_neg f1).2] at fe
  obtain ⟨fe1, ge1⟩ := fe.unit (z := (n0 : Int) - val z) (j := j) (by
    generalize ((2 ^ 1074 : Nat) : Int) = T
    grind) (by omega) (by omega)
  clear fe
  have fe := isF_fma hE.1 hEg.1 (isF_neg f2).1
  rw [hm2, (isF_neg f2).2] at fe
  obtain ⟨fe2, ge2⟩ := fe.unit (z := -(qqu : Int) - val (Float64.mul h (Float64.neg h))) (j := j) (by
    generalize ((2 ^ 1074 : Nat) : Int) = T
    grind) (by omega) (by omega)
  clear fe
  have bb1 : (2 : Nat) ^ 1130 ≤ 2 ^ 1900 := Nat.pow_le_pow_right (by decide) (by decide)
  have bb2 : (2 : Nat) ^ 1900 ≤ 2 ^ 1980 := Nat.pow_le_pow_right (by decide) (by decide)
  have bb3 : 2 ^ 110 * 2 ^ j ≤ 2 ^ 1130 := by rw [← Nat.pow_add]; exact Nat.pow_le_pow_right (by decide) (by omega)
  have bb4 : 2 ^ 55 * 2 ^ j ≤ 2 ^ 1130 := by rw [← Nat.pow_add]; exact Nat.pow_le_pow_right (by decide) (by omega)
  obtain ⟨k1, k2, k3, k4, k5, bsum, k7, k8, k9, k10⟩ := rest_bounds hζ b1 b2 b3 b4 b5 b6 b7 g2 ge1 ge2
  obtain ⟨t1, t2, t3, ht, ft1, ft2, ft3, vt1, vt2, vt3⟩ := tlFma_first (x := x) (y := y) (isF_zero false).1 (isF_zero false).1 (isF_zero false).1 (isF_zero false).2 (isF_zero false).2 (isF_zero false).2 (by rw [hz]; exact f1) (by rw [hz]; exact fe1) (by rw [hz]; exact Nat.le_trans k1 (Nat.le_trans bb3 bb1)) (by rw [hz]; exact Nat.le_trans k3 (Nat.le_trans bb4 bb1))
  rw [hz] at vt1 vt2
  have p40 : 2 ^ 54 * 2 ^ (j + 40) = 2 ^ 94 * 2 ^ j := by rw [← Nat.pow_add, ← Nat.pow_add]; congr 1; omega
  obtain ⟨s1, hs1⟩ := f1.dvd (c := j + 40) (Nat.le_trans k1 (Nat.le_trans bb3 (Nat.le_trans bb1 bb2))) (by rw [p40]; exact k7)
  obtain ⟨s2, hs2⟩ := f2.dvd (c := j + 40) (Nat.le_trans k2 (Nat.le_trans bb3 (Nat.le_trans bb1 bb2))) (by rw [p40]; exact k8)
  have hex : IsF (Float64.add t1 (Float64.mul h (Float64.neg h))) ∧ val (Float64.add t1 (Float64.mul h (Float64.neg h))) = val t1 + val (Float64.mul h (Float64.neg h)) := by
    have e1 : val t1 + val (Float64.mul h (Float64.neg h)) = (s1 + s2) * ((2 ^ (j + 41) : Nat) : Int) := by
      rw [vt1, hs1, hs2, Int.add_mul]
    have e2 : (s1 + s2).natAbs ≤ 2 ^ 53 := by
      have e3 : (s1 + s2).natAbs * 2 ^ (j + 41) ≤ 2 ^ 14 * 2 ^ (j + 41) := by
        rw [vt1] at e1
        have := congrArg Int.natAbs e1
        rw [Int.natAbs_mul, Int.natAbs_natCast] at this
        rw [← this, ← Nat.pow_add, show 14 + (j + 41) = 55 + j by omega, Nat.pow_add]; exact bsum
      exact Nat.le_trans (Nat.le_of_mul_le_mul_right e3 (Nat.two_pow_pos _)) (by decide)
    obtain ⟨a1, a2⟩ := (isF_add ft1 f2).exact (c := j + 41) (q := s1 + s2) (by omega) (by rw [e1]; simp) e2
    exact ⟨a1, by rw [a2, e1]⟩
  obtain ⟨c1, c2, c3⟩ := tlFma_second (h := h) (g := Float64.neg h) (j := j) (by omega) ft1 ft2 ft3 vt3 f2 fe2 hex.1 hex.2 (by rw [vt1]; exact k1) k2 (by rw [vt2]; exact k3) k4 (by rw [vt1]; exact bsum) (by rw [vt2]; exact k5)
  refine ⟨q, k, j, hq, hq2, hk1, hk2, hjk, hE, by rw [hqqu]; exact k9, _, .cons (by rw [ht]; exact ft1.finite) (.cons (by rw [ht]; exact c1.finite) .nil), ?_⟩
  rw [ht, hqqu]
  rw [vt1, vt2] at c3
  obtain ⟨o1, o2⟩ := E.ofInt (i := 0) (by decide)
  rw [Int.zero_mul] at o2
  exact last_add hu (by omega) o1 o2 c2 k9 k10 c3
end Mine
end
section
open PySem PySem.Float64
set_option Elab.async false
set_option maxRecDepth 100000
set_option exponentiation.threshold 3000
set_option maxHeartbeats 1000000
namespace Mine
theorem cv_bound {q K : Nat} {N cv : Int} (hq : 2 ^ 52 ≤ q) (hN : (N - ((q * q : Nat) : Int)).natAbs ≤ 2 ^ 54 + 16)
    (h1 : ((N - ((q * q : Nat) : Int)) * (K : Int) - 2 * (q : Int) * cv).natAbs ≤ 260 * K) : cv.natAbs ≤ 3 * K := by
  have e1 : (2 * (q : Int) * cv).natAbs = 2 * q * cv.natAbs := by rw [Int.natAbs_mul, Int.natAbs_mul]; rfl
  have e2 : ((N - ((q * q : Nat) : Int)) * (K : Int)).natAbs ≤ (2 ^ 54 + 16) * K := by
    rw [Int.natAbs_mul, Int.natAbs_natCast]; exact Nat.mul_le_mul_right _ hN
  have e3 : 2 ^ 53 * cv.natAbs ≤ 2 * q * cv.natAbs := Nat.mul_le_mul_right _ (by omega)
  omega
/-- from the quotient's place to its plain bound -/
theorem quot_arith {q K T u : Nat} {N dd cv : Int} (hK : 0 < K) (hTu : T * u = K * K) (h1 : (N * (u : Int) - ((q * q * u : Nat) : Int) - dd).natAbs ≤ 256 * u) (h2 : 2 * (dd * (T : Int) - ((q * (2 * K) : Nat) : Int) * cv).natAbs ≤ 8 * (K * K)) :
    ((N - ((q * q : Nat) : Int)) * (K : Int) - 2 * (q : Int) * cv).natAbs ≤ 260 * K := by
  have a1 : ((N * (u : Int) - ((q * q * u : Nat) : Int) - dd) * (T : Int)).natAbs ≤ 256 * (K * K) := by
    rw [Int.natAbs_mul, Int.natAbs_natCast, ← hTu]
    exact Nat.le_trans (Nat.mul_le_mul_right T h1) (Nat.le_of_eq (by ac_rfl))
  have a2 : ((N - ((q * q : Nat) : Int)) * (K : Int) - 2 * (q : Int) * cv) * (K : Int) = (N * (u : Int) - ((q * q * u : Nat) : Int) - dd) * (T : Int) + (dd * (T : Int) - ((q * (2 * K) : Nat) : Int) * cv) := by
    have hTu' : (T : Int) * (u : Int) = (K : Int) * (K : Int) := by rw [← Int.natCast_mul, ← Int.natCast_mul, hTu]
    push_cast
    grind
  have a3 : ((N - ((q * q : Nat) : Int)) * (K : Int) - 2 * (q : Int) * cv).natAbs * K ≤ 260 * K * K := by
    have := congrArg Int.natAbs a2
    rw [Int.natAbs_mul, Int.natAbs_natCast] at this
    rw [this, Nat.mul_assoc 260]
    omega
  exact Nat.le_of_mul_le_mul_right a3 hK
theorem room55 {u : Nat} : 256 * u + (2 ^ 54 + 16) * u ≤ 2 ^ 55 * u := by omega
theorem room54 {K a : Nat} (h : a ≤ 2 ^ 53 * K) : a + 3 * K ≤ 2 ^ 54 * K := by omega
theorem so_high {a c s : Int} {K : Nat} (h1 : a.natAbs ≤ 2 ^ 53 * K) (h2 : c.natAbs ≤ 3 * K) (h3 : (a + c - s).natAbs ≤ K) : s.natAbs ≤ 2 ^ 54 * K := by
  have h4 := abs_right h3 (abs_add h1 h2)
  omega
theorem half_of {a K : Nat} (h : 2 * a ≤ 2 * K) : a ≤ K := by omega
theorem le_of_natAbs {x : Int} {n : Nat} (h : x.natAbs ≤ n) : x ≤ n := by omega
theorem natAbs_ge {x : Int} {n : Nat} (h : (n : Int) ≤ x) : n ≤ x.natAbs := by omega
theorem pos_p {a c : Int} {K qn : Nat} (hq : a = (qn : Int)) (e4 : 2 ^ 52 * K ≤ qn) (h : c.natAbs ≤ 3 * K) : 0 ≤ a + c := by
  obtain ⟨a1, a2⟩ := two_sided h
  clear h
  omega
theorem near_S {p s S K : Nat} (h1 : 2 ^ 42 * ((p : Int) - (S : Int)).natAbs ≤ K) (h2 : dist p s ≤ dist p S) : 2 ^ 41 * ((s : Int) - (S : Int)).natAbs ≤ K := by
  have e1 : ((p : Int) - (S : Int)).natAbs = dist p S := by unfold dist; omega
  have e2 : ((s : Int) - (S : Int)).natAbs ≤ dist p s + dist p S := by unfold dist; omega
  rw [e1] at h1
  omega
theorem root_spec {x y : UInt64} {A B : Nat} (hx : E 1066 x A) (hy : E 1060 y B) (hA : 1 ≤ A) (hA2 : A ≤ 2 ^ 31) (hB : 1 ≤ B) (hB2 : B ≤ 2 ^ 31) :
    ∃ so, SqRun x y so ∧ IsF so ∧ 2 ^ 1060 ≤ val so ∧ val so ≤ 2 ^ 1100 ∧ 2 ^ 60 * (val so * val so - ((A * B * 2 ^ 2126 : Nat) : Int)).natAbs ≤ 516 * (A * B * 2 ^ 2126) ∧ ∀ C : Nat, A * B = C * C → val so = ((C * 2 ^ 1063 : Nat) : Int) := by
  have hAB : 1 ≤ A * B := Nat.mul_le_mul hA hB
  have hAB2 : A * B ≤ 2 ^ 62 := Nat.le_trans (Nat.mul_le_mul hA2 hB2) (by decide)
  have hprod : val x * val y = ((2 ^ 1074 : Nat) : Int) * ((A * B * 2 ^ 1052 : Nat) : Int) := by
    rw [hx.prod hy (e := 1052) (by decide), Int.natCast_mul (A * B), Int.natCast_mul A B]
  have lo0 : 2 ^ 1052 ≤ A * B * 2 ^ 1052 := Nat.le_mul_of_pos_left _ hAB
  have hi0 : A * B * 2 ^ 1052 ≤ 2 ^ 1114 := by
    rw [show (1114 : Nat) = 62 + 1052 by rfl, Nat.pow_add]; exact Nat.mul_le_mul_right _ hAB2
  obtain ⟨q, k, j, hq, hq2, hk1, hk2, hjk, hE, hD, r, hr, fr, hv⟩ := root_rest hx.1 hy.1 hprod lo0 hi0
  clear lo0 hi0 hprod
  obtain ⟨h, hh⟩ : ∃ h, Float64.sqrt (Float64.mul x y) = h := ⟨_, rfl⟩
  have hE' := hE
  rw [hh] at hE
  obtain ⟨d, hd⟩ : ∃ d, Float64.add (Float64.ofInt 0) (Builtin.Math.tlToFloat r) = d := ⟨_, rfl⟩
  rw [hd] at fr hv
  have hm : E (k + 1) (Float64.mul 0x4000000000000000 h) (1 * (q : Int)) := val_two.mul hE (by omega) (by omega) (by omega)
  have hK : 0 < 2 ^ k := Nat.two_pow_pos k
  have hu : 0 < 2 ^ j := Nat.two_pow_pos j
  have hTu : 2 ^ 1074 * 2 ^ j = 2 ^ k * 2 ^ k := by rw [← Nat.pow_add, ← Nat.pow_add]; congr 1; omega
  have hm2 : val (Float64.mul 0x4000000000000000 h) = ((q * (2 * 2 ^ k) : Nat) : Int) := by
    rw [hm.2, Int.one_mul, ← Int.natCast_mul, Nat.pow_succ, Nat.mul_comm (2 ^ k) 2]
  have hmpos : 0 < q * (2 * 2 ^ k) := Nat.mul_pos (by omega) (by omega)
  have hq53 : 2 ^ 52 * 2 ^ k ≤ q * 2 ^ k := Nat.mul_le_mul_right _ hq
  have hq54 : q * 2 ^ k ≤ 2 ^ 53 * 2 ^ k := Nat.mul_le_mul_right _ (by omega)
  have nc := isF_div fr hm.1 (by rw [hm2]; omega)
  rw [hm2, Int.natAbs_natCast] at nc
  have pk : 2 ^ (k - 51) * 2 ^ 51 = 2 ^ k := by rw [← Nat.pow_add]; congr 1; omega
  have hnu : A * B * 2 ^ 1052 = A * B * 2 ^ (1052 - j) * 2 ^ j := by rw [Nat.mul_assoc (A * B), ← Nat.pow_add]; congr 2; omega
  rw [hnu, Int.natCast_mul _ (2 ^ j)] at hD hv
  generalize hNN : A * B * 2 ^ (1052 - j) = N at hD hv
  have hN : ((N : Int) - ((q * q : Nat) : Int)).natAbs ≤ 2 ^ 54 + 16 := by
    rw [Int.natCast_mul (q * q), ← Int.sub_mul, Int.natAbs_mul, Int.natAbs_natCast] at hD
    exact Nat.le_of_mul_le_mul_right hD hu
  obtain ⟨fc, gc⟩ := nc.near (c := k - 51) (by omega) (by
    rw [Int.natAbs_mul, Int.natAbs_natCast]
    have b1 : (val d).natAbs ≤ 2 ^ 55 * 2 ^ j := Nat.le_trans (abs_right hv hD) room55
    have b2 : 2 ^ (k - 51 + 53) = 4 * 2 ^ k := by rw [← pk, Nat.pow_add, show (4 : Nat) = 2 ^ 2 by rfl, show (53 : Nat) = 51 + 2 by rfl, Nat.pow_add]; ac_rfl
    rw [b2]
    calc (val d).natAbs * 2 ^ 1074 ≤ 2 ^ 55 * 2 ^ j * 2 ^ 1074 := Nat.mul_le_mul_right _ b1
      _ = 2 ^ 55 * (2 ^ 1074 * 2 ^ j) := by ac_rfl
      _ = 2 ^ 55 * (2 ^ k * 2 ^ k) := by rw [hTu]
      _ = 8 * (2 ^ 52 * 2 ^ k * 2 ^ k) := by rw [show (2 : Nat) ^ 55 = 8 * 2 ^ 52 by rfl]; ac_rfl
      _ ≤ 8 * (q * 2 ^ k * 2 ^ k) := Nat.mul_le_mul_left _ (Nat.mul_le_mul_right _ hq53)
      _ = _ := by rw [show (8 : Nat) = 2 * 4 by rfl]; ac_rfl)
  obtain ⟨c, hc⟩ : ∃ c, Float64.div d (Float64.mul 0x4000000000000000 h) = c := ⟨_, rfl⟩
  rw [hc] at fc gc
  have gc2 : q * (2 * 2 ^ k) * 2 ^ (k - 51) ≤ 8 * (2 ^ k * 2 ^ k) := by
    calc q * (2 * 2 ^ k) * 2 ^ (k - 51) = q * 2 ^ k * (2 * 2 ^ (k - 51)) := by ac_rfl
      _ ≤ 2 ^ 53 * 2 ^ k * (2 * 2 ^ (k - 51)) := Nat.mul_le_mul_right _ hq54
      _ = 8 * (2 ^ k * (2 ^ (k - 51) * 2 ^ 51)) := by rw [show (2 : Nat) ^ 53 = 4 * 2 ^ 51 by rfl, show (8 : Nat) = 4 * 2 by rfl]; ac_rfl
      _ = _ := by rw [pk]
  have h1 := quot_arith hK hTu hv (Nat.le_trans gc gc2)
  have hcv := cv_bound hq hN h1
  have ns := isF_add hE.1 fc
  have hhv : val h = ((q * 2 ^ k : Nat) : Int) := by rw [hE.2, Int.natCast_mul]
  rw [hhv] at ns
  have hZ : (((q * 2 ^ k : Nat) : Int) + val c).natAbs ≤ 1 * 2 ^ (k + 1 + 53) := by
    rw [Nat.one_mul, show k + 1 + 53 = 54 + k by omega, Nat.pow_add]
    exact Nat.le_trans (abs_add (by rw [Int.natAbs_natCast]; exact Nat.le_refl _) hcv) (room54 hq54)
  obtain ⟨fs, gs⟩ := ns.near (c := k + 1) (by omega) hZ
  have h2 : (((q * 2 ^ k : Nat) : Int) + val c - val (Float64.add h c)).natAbs ≤ 2 ^ k := by
    rw [Nat.one_mul, Nat.pow_succ] at gs
    simp only [Int.cast_ofNat_Int, Int.one_mul] at gs
    rw [Nat.mul_comm (2 ^ k) 2] at gs
    exact half_of gs
  obtain ⟨_, hs, hbd⟩ := final_arith hK hq hq2 hN h1 h2
  have hM : ((N : Int) * ((2 ^ k * 2 ^ k : Nat) : Int)) = ((A * B * 2 ^ 2126 : Nat) : Int) := by
    rw [← Int.natCast_mul, ← hNN, ← Nat.pow_add, Nat.mul_assoc (A * B), ← Nat.pow_add]
    congr 3; omega
  rw [hM, Int.natAbs_natCast] at hbd
  have lowk : (2 : Nat) ^ 1060 ≤ 2 ^ 51 * 2 ^ k := by rw [← Nat.pow_add]; exact Nat.pow_le_pow_right (by decide) (by omega)
  have highk : 2 ^ 54 * 2 ^ k ≤ (2 : Nat) ^ 1100 := by rw [← Nat.pow_add]; exact Nat.pow_le_pow_right (by decide) (by omega)
  have hrun : SqRun x y (Float64.add h c) := by
    have := SqRun.root (a := x) (b := y) (r := r) hE'.1.finite (by rw [hE'.1.notNaN]; rfl) (hE'.1.zero_false (by rw [hE'.2]; omega)) hr (by rw [hh]; exact hm.1.zero_false (by rw [hm2]; omega))
    rw [hh, hd, hc] at this
    exact this
  have hhi : (val (Float64.add h c)).natAbs ≤ 2 ^ 54 * 2 ^ k := so_high (by rw [Int.natAbs_natCast]; exact hq54) hcv h2
  refine ⟨_, hrun, fs, Int.le_trans (by exact_mod_cast lowk) hs, Int.le_trans (le_of_natAbs (Nat.le_trans hhi highk)) (by exact_mod_cast Nat.le_refl _), hbd, ?_⟩
  intro C hC
  have hS : ((C * 2 ^ 1063 : Nat) : Int) * ((C * 2 ^ 1063 : Nat) : Int) = (N : Int) * ((2 ^ k * 2 ^ k : Nat) : Int) := by
    rw [hM, ← Int.natCast_mul, hC, show (2126 : Nat) = 1063 + 1063 by rfl, Nat.pow_add]
    congr 1; ac_rfl
  have hl := final_line hK hq hcv h1 (Int.natCast_nonneg _) hS
  have hC53 : C ≤ 2 ^ 53 := by
    rcases Nat.lt_or_ge (2 ^ 53) C with g | g
    · have := Nat.mul_le_mul (Nat.le_of_lt g) (Nat.le_of_lt g)
      omega
    · exact g
  obtain ⟨t', ht'⟩ := rep 1063 C hC53
  obtain ⟨t, _, _, e1, e2, _⟩ := ns.any (c := k + 1) (by omega) hZ ht'
  clear e1
  rw [Nat.one_mul, Nat.one_mul] at e2
  obtain ⟨S, hSS⟩ : ∃ S, C * 2 ^ 1063 = S := ⟨_, rfl⟩
  rw [hSS] at hl e2 ⊢
  clear hS ht' hC hm hmpos
  have hnear : 2 ^ 41 * (val (Float64.add h c) - (S : Int)).natAbs ≤ 2 ^ k := by
    have hs0 : 0 ≤ val (Float64.add h c) := Int.le_trans (Int.natCast_nonneg _) hs
    have hp0 : 0 ≤ ((q * 2 ^ k : Nat) : Int) + val c := pos_p rfl hq53 hcv
    have hse := Int.natAbs_of_nonneg hs0
    have hpe := Int.natAbs_of_nonneg hp0
    rw [← hpe] at hl
    rw [← hse]
    exact near_S hl e2
  obtain ⟨s', hs'⟩ := fs.dvd (c := k - 3) (by
    have h8 : (2 : Nat) ^ 1100 ≤ 2 ^ 1980 := Nat.pow_le_pow_right (by decide) (by decide)
    exact Nat.le_trans hhi (Nat.le_trans highk h8)) (by
    have : 2 ^ 54 * 2 ^ (k - 3) = 2 ^ 51 * 2 ^ k := by rw [← Nat.pow_add, ← Nat.pow_add]; congr 1; omega
    rw [this]; exact natAbs_ge hs)
  have hSd : (S : Int) = ((C * 2 ^ (1063 - (k - 2)) : Nat) : Int) * ((2 ^ (k - 3 + 1) : Nat) : Int) := by
    rw [← hSS, ← Int.natCast_mul, Nat.mul_assoc, ← Nat.pow_add]
    congr 3; omega
  rw [hs', hSd, ← Int.sub_mul, Int.natAbs_mul, Int.natAbs_natCast] at hnear
  have hp : (2 : Nat) ^ k = 4 * 2 ^ (k - 3 + 1) := by rw [show (4 : Nat) = 2 ^ 2 by rfl, ← Nat.pow_add]; congr 1; omega
  rw [hp, ← Nat.mul_assoc] at hnear
  have := Nat.le_of_mul_le_mul_right hnear (Nat.two_pow_pos _)
  have hz : s' = ((C * 2 ^ (1063 - (k - 2)) : Nat) : Int) := by omega
  rw [hs', hSd, hz]
end Mine
end
section
open PySem PySem.Float64
set_option Elab.async false
set_option maxRecDepth 100000
set_option exponentiation.threshold 3000
set_option maxHeartbeats 1000000
namespace Mine
theorem sum_shift (b : Int) : ∀ l : List Int, (l.map fun k' => k' + b).sum = l.sum + l.length * b
  | [] => by simp
  | a :: l => by
    rw [List.map_cons, List.sum_cons, sum_shift b l, List.sum_cons, List.length_cons]
    push_cast
    grind
theorem sum_near {b : Int} : ∀ {l : List Int}, (∀ v ∈ l, (v - b).natAbs ≤ 256) → (l.sum - l.length * b).natAbs ≤ 256 * l.length
  | [], _ => by simp
  | a :: l, h => by
    have h1 := h a (.head _)
    have h2 := sum_near (b := b) (l := l) fun v hv => h v (.tail _ hv)
    rw [List.sum_cons, List.length_cons]
    have e : ((l.length + 1 : Nat) : Int) * b = l.length * b + b := by push_cast; grind
    rw [e]
    omega
theorem row0_range (ns : List Int) : ∀ v ∈ row0 ns, -128 ≤ v ∧ v ≤ 127 := by
  intro v hv
  unfold row0 at hv
  obtain ⟨z, _, rfl⟩ := List.mem_map.mp hv
  have e1 : (2 : Int) ^ Int.toNat 7 = 128 := by decide
  have e2 : (2 : Int) ^ Int.toNat 8 = 256 := by decide
  rw [e1, e2]
  have := Int.fmod_nonneg_of_pos (z + 128) (show (0 : Int) < 256 by decide)
  have := Int.fmod_lt_of_pos (z + 128) (show (0 : Int) < 256 by decide)
  omega
theorem row_facts {n : Nat} {P : List Int} (h : Row5 n P) (h2 : 2 ≤ n) (h30 : n ≤ 30) :
    ∃ b M : Int, b.natAbs ≤ 2 ^ 28 ∧ (∀ v ∈ P, (v - b).natAbs ≤ 256) ∧ 16 * P.sum = n * M := by
  obtain ⟨zs, o, along, hz, ⟨o1, _, k, hk⟩, rfl⟩ := h
  have e1 : (2 : Int) ^ Int.toNat 28 = 268435456 := by decide
  have e2 : (2 : Int) ^ Int.toNat 29 = 536870912 := by decide
  have hlen : (row0 zs).length = n := by simp [row0, hz]
  have hr := row0_range zs
  have hon : o ≤ 30 := by
    have hp : (1 : Int) ≤ 2 ^ k := by exact_mod_cast Nat.two_pow_pos k
    have : 1 * o ≤ 2 ^ k * o := Int.mul_le_mul_of_nonneg_right hp (by omega)
    omega
  have hk4 : k ≤ 4 := by
    rcases Nat.lt_or_ge 4 k with g | g
    · have h5 : (2 : Int) ^ 5 ≤ 2 ^ k := by
        have := Nat.pow_le_pow_right (n := 2) (by decide) g
        exact_mod_cast this
      have : 2 ^ 5 * 1 ≤ 2 ^ k * o := Int.mul_le_mul h5 o1 (by decide) (by omega)
      omega
    · exact g
  cases hrow : row0 zs with
  | nil => rw [hrow] at hlen; simp at hlen; omega
  | cons a as =>
    rw [hrow] at hr hlen
    have hc1 := Int.fmod_nonneg_of_pos (along + 268435456) (show (0 : Int) < 536870912 by decide)
    have hc2 := Int.fmod_lt_of_pos (along + 268435456) (show (0 : Int) < 536870912 by decide)
    have hd1 := Int.fmod_nonneg_of_pos (a :: as).sum (show (0 : Int) < o by omega)
    have hd2 := Int.fmod_lt_of_pos (a :: as).sum (show (0 : Int) < o by omega)
    have hdv : ∃ t, (a :: as).sum - (a :: as).sum.fmod o = o * t := ⟨(a :: as).sum.fdiv o, by have := Int.fdiv_mul_add_fmod (a :: as).sum o; rw [Int.mul_comm]; omega⟩
    obtain ⟨t, ht⟩ := hdv
    have hrF : rowF zs o along = ((a - (a :: as).sum.fmod o) :: as).map fun k' => k' + ((along + 268435456).fmod 536870912 - 268435456) := by
      unfold rowF
      rw [hrow, e1, e2]
      show (List.map _ ((a - (a :: as).sum.fmod o) :: as)) = _
      exact List.map_congr_left fun x _ => by omega
    refine ⟨(along + 268435456).fmod 536870912 - 268435456, 2 ^ (4 - k) * t + 16 * ((along + 268435456).fmod 536870912 - 268435456), by omega, ?_, ?_⟩
    · intro v hv
      rw [hrF] at hv
      obtain ⟨x, hx, rfl⟩ := List.mem_map.mp hv
      have : -158 ≤ x ∧ x ≤ 127 := by
        rcases List.mem_cons.mp hx with rfl | hx
        · have := hr a (.head _); omega
        · have := hr x (.tail _ hx); omega
      omega
    · rw [hrF, sum_shift]
      have hl2 : (((a - (a :: as).sum.fmod o) :: as).length : Int) = n := by rw [← hlen]; rfl
      rw [hl2, List.sum_cons]
      have hs : a - (a :: as).sum.fmod o + as.sum = o * t := by rw [← ht, List.sum_cons]; omega
      rw [hs, hk]
      have h16 : (2 : Int) ^ k * 2 ^ (4 - k) = 16 := by rw [← Int.pow_add, show k + (4 - k) = 4 by omega]; decide
      generalize (along + 268435456).fmod 536870912 - 268435456 = b
      have : 16 * (o * t) = 2 ^ k * o * (2 ^ (4 - k) * t) := by
        calc 16 * (o * t) = 2 ^ k * 2 ^ (4 - k) * (o * t) := by rw [h16]
          _ = _ := by ac_rfl
      rw [Int.mul_add, this]
      grind
def devI (P : List Int) (M : Int) : List Int := P.map fun v => v * 16 - M
theorem devI_length (P : List Int) (M : Int) : (devI P M).length = P.length := by simp [devI]
theorem dev_bound {n : Nat} {P : List Int} {b M : Int} (hl : P.length = n) (hn : 1 ≤ n) (hb : ∀ v ∈ P, (v - b).natAbs ≤ 256) (hM : 16 * P.sum = n * M) : ∀ a ∈ devI P M, a.natAbs ≤ 2 ^ 13 := by
  intro a ha
  obtain ⟨v, hv, rfl⟩ := List.mem_map.mp ha
  have h1 := hb v hv
  have h2 := sum_near hb
  rw [hl] at h2
  have h3 : ((n : Int) * (v * 16 - M)).natAbs ≤ n * 2 ^ 13 := by
    have e : (n : Int) * (v * 16 - M) = 16 * (n * (v - b)) - 16 * (P.sum - n * b) := by
      rw [Int.mul_sub, ← hM]; grind
    have e2 : ((n : Int) * (v - b)).natAbs ≤ n * 256 := by rw [Int.natAbs_mul, Int.natAbs_natCast]; exact Nat.mul_le_mul_left _ h1
    rw [e]
    omega
  rw [Int.natAbs_mul, Int.natAbs_natCast] at h3
  exact Nat.le_of_mul_le_mul_left h3 (by omega)
theorem dot_dev {M M' : Int} : ∀ {P Q : List Int}, P.length = Q.length → dotI (devI P M) (devI Q M') = 256 * dotI P Q - 16 * M' * P.sum - 16 * M * Q.sum + P.length * M * M'
  | [], [], _ => by simp [dotI, devI]
  | p :: P, q :: Q, h => by
    have ih := dot_dev (M := M) (M' := M') (P := P) (Q := Q) (by simpa using h)
    have e1 : dotI (devI (p :: P) M) (devI (q :: Q) M') = (p * 16 - M) * (q * 16 - M') + dotI (devI P M) (devI Q M') := by simp [dotI, devI]
    have e2 : dotI (p :: P) (q :: Q) = p * q + dotI P Q := by simp [dotI]
    rw [e1, e2, ih, List.sum_cons, List.sum_cons, List.length_cons]
    push_cast
    grind
theorem dot_joint {n : Nat} {P Q : List Int} {M M' : Int} (hP : P.length = n) (hQ : Q.length = n) (h1 : 16 * P.sum = n * M) (h2 : 16 * Q.sum = n * M') :
    (n : Int) * dotI (devI P M) (devI Q M') = 256 * ((n : Int) * dotI P Q - P.sum * Q.sum) := by
  rw [dot_dev (hP.trans hQ.symm), hP]
  grind
theorem sq_nonneg' (a : Int) : 0 ≤ a * a := by
  rcases Int.le_total 0 a with h | h
  · exact Int.mul_nonneg h h
  · exact Int.mul_nonneg_of_nonpos_of_nonpos h h
theorem dot_self_nonneg : ∀ as : List Int, 0 ≤ dotI as as
  | [] => by simp [dotI]
  | a :: as => by
    have := dot_self_nonneg as
    have e : dotI (a :: as) (a :: as) = a * a + dotI as as := by simp [dotI]
    have := sq_nonneg' a
    omega
theorem dot_self_zero : ∀ {as : List Int}, dotI as as = 0 → ∀ a ∈ as, a = 0
  | [], _, _, h => nomatch h
  | a :: as, h, x, hx => by
    have e : dotI (a :: as) (a :: as) = a * a + dotI as as := by simp [dotI]
    have h1 := dot_self_nonneg as
    have h2 := sq_nonneg' a
    rcases List.mem_cons.mp hx with rfl | hx
    · have h3 : x * x = 0 := by omega
      rcases Int.mul_eq_zero.mp h3 with q | q <;> exact q
    · exact dot_self_zero (by omega) x hx
theorem same_iff {n : Nat} {P : List Int} {M : Int} (hl : P.length = n) (hn : 1 ≤ n) (hM : 16 * P.sum = n * M) : SameAll P ↔ dotI (devI P M) (devI P M) = 0 := by
  constructor
  · intro h
    have hz : ∀ a ∈ devI P M, a = 0 := by
      intro a ha
      obtain ⟨v, hv, rfl⟩ := List.mem_map.mp ha
      have hs : ∀ {l : List Int}, (∀ x ∈ l, x = v) → l.sum = l.length * v := by
        intro l
        induction l with
        | nil => intro _; simp
        | cons a l ih =>
          intro hx
          rw [List.sum_cons, ih fun x hx' => hx x (.tail _ hx'), hx a (.head _), List.length_cons]
          push_cast; grind
      have := hs fun x hx => h x hx v hv
      rw [this, hl] at hM
      have : (n : Int) * (v * 16 - M) = 0 := by rw [Int.mul_sub, ← hM]; grind
      rcases Int.mul_eq_zero.mp this with q | q
      · omega
      · exact q
    have : ∀ {l : List Int}, (∀ a ∈ l, a = 0) → dotI l l = 0 := by
      intro l
      induction l with
      | nil => intro _; simp [dotI]
      | cons a l ih =>
        intro hx
        have e : dotI (a :: l) (a :: l) = a * a + dotI l l := by simp [dotI]
        rw [e, ih fun x hx' => hx x (.tail _ hx'), hx a (.head _)]; rfl
    exact this hz
  · intro h a ha b hb
    have h1 := dot_self_zero h _ (List.mem_map.mpr ⟨a, ha, rfl⟩)
    have h2 := dot_self_zero h _ (List.mem_map.mpr ⟨b, hb, rfl⟩)
    omega
end Mine
end
section
open PySem PySem.W PySem.Calls PyProof.Rows PySem.Flt
set_option Elab.async false
set_option maxRecDepth 100000
set_option exponentiation.threshold 3000
namespace Mine
theorem Row5.bound {n : Nat} {P : List Int} (h : Row5 n P) (h2 : 2 ≤ n) (h30 : n ≤ 30) : ∀ x ∈ P, -2 ^ 30 ≤ x ∧ x ≤ 2 ^ 30 := by
  obtain ⟨b, M, hb, hv, _⟩ := row_facts h h2 h30
  intro x hx
  have := hv x hx
  omega
theorem lt_of_abs_small {x : Int} (h : -2 ^ 30 ≤ x ∧ x ≤ 2 ^ 30) : x.natAbs < 2 ^ 1023 := by
  have h1 : x.natAbs ≤ 2 ^ 30 := by omega
  exact Nat.lt_of_le_of_lt h1 (Nat.pow_lt_pow_right (by decide) (by decide))
def yf (v : Int) : UInt64 := Float64.ofFrac (decide (v < 0)) v.natAbs 8
theorem yq (a : Int) : Float64.ofFrac (decide (a < 0) != decide ((8 : Int) < 0)) a.natAbs (8 : Int).natAbs = Float64.ofFrac (decide (a < 0)) a.natAbs 8 := by
  cases decide (a < 0) <;> rfl
theorem not_over_small {x : Int} (h : -2 ^ 30 ≤ x ∧ x ≤ 2 ^ 30) : ¬ Over x := by
  have h1 : x.natAbs ≤ 2 ^ 30 := by omega
  have h2 : (2 : Nat) ^ 30 < 2 ^ 970 := Nat.pow_lt_pow_right (by decide) (by decide)
  have h3 : (2 : Nat) ^ 971 ≤ 2 ^ 1024 := Nat.pow_le_pow_right (by decide) (by decide)
  have h4 : (2 : Nat) ^ 971 = 2 ^ 970 * 2 := Nat.pow_succ ..
  unfold Over
  generalize (2 : Nat) ^ 970 = a at *
  generalize (2 : Nat) ^ 1024 = b at *
  omega
theorem RealsAre.ofInts : ∀ {vs : List Value} {ns : List Int}, IntsAre vs ns → (∀ x ∈ ns, -2 ^ 30 ≤ x ∧ x ≤ 2 ^ 30) → RealsAre vs (ns.map Float64.ofInt)
  | _, _, .nil, _ => .nil
  | _, _, .cons n t h, hb => .int n t (not_over_small (hb n (.head _))) (RealsAre.ofInts h fun x hx => hb x (.tail _ hx))
theorem RealsAre.ofFloats : ∀ {vs : List Value} {bs : List UInt64}, FloatsAre vs bs → RealsAre vs bs
  | _, _, .nil => .nil
  | _, _, .cons b t h => .flt b t (RealsAre.ofFloats h)
def dev (xs : List UInt64) (fx : UInt64) (n : Nat) : List UInt64 := xs.map fun f => Float64.sub f (Float64.div fx (Float64.ofInt n))
structure CorrData (n : Nat) (P Q : List Int) (fx fy : UInt64) (rxy rxx ryy : Tri) (so : UInt64) : Prop where
  f1 : FsRun [] (P.map Float64.ofInt) fx
  f2 : FsRun [] (Q.map yf) fy
  sxy : SpRun (Float64.zero false, Float64.zero false, Float64.zero false) ((P.map Float64.ofInt).map fun f => Float64.sub f (Float64.div fx (Float64.ofInt n))) ((Q.map yf).map fun f => Float64.sub f (Float64.div fy (Float64.ofInt n))) rxy
  sxx : SpRun (Float64.zero false, Float64.zero false, Float64.zero false) ((P.map Float64.ofInt).map fun f => Float64.sub f (Float64.div fx (Float64.ofInt n))) ((P.map Float64.ofInt).map fun f => Float64.sub f (Float64.div fx (Float64.ofInt n))) rxx
  syy : SpRun (Float64.zero false, Float64.zero false, Float64.zero false) ((Q.map yf).map fun f => Float64.sub f (Float64.div fy (Float64.ofInt n))) ((Q.map yf).map fun f => Float64.sub f (Float64.div fy (Float64.ofInt n))) ryy
  sq : SqRun (Float64.add (Float64.ofInt 0) (Builtin.Math.tlToFloat rxx)) (Float64.add (Float64.ofInt 0) (Builtin.Math.tlToFloat ryy)) so
def jointOf (P Q : List Int) : Int := (P.length : Int) * ((P.zip Q).map fun p => p.1 * p.2).sum - P.sum * Q.sum
/-- what the law asks of the answer -/
structure ToldAt (P Q : List Int) (r : UInt64) (sg : Bool) (mm : Nat) (e : Int) (up : Int) (down : Nat) : Prop where
  dec : Float64.decode r = .fin sg mm e
  hup : up = Float64.sgn sg (Float64.ratio mm e).1
  hdown : down = (Float64.ratio mm e).2
  b1 : -2 ^ 60 ≤ up ∧ up ≤ 2 ^ 60
  b2 : 1 ≤ down ∧ down ≤ 2 ^ 200
  sign : ¬ up * jointOf P Q < 0
  near : ¬ jointOf P Q * jointOf P Q * down * down < (if up * up * jointOf P P * jointOf Q Q - jointOf P Q * jointOf P Q * down * down < 0 then -(up * up * jointOf P P * jointOf Q Q - jointOf P Q * jointOf P Q * down * down) else up * up * jointOf P P * jointOf Q Q - jointOf P Q * jointOf P Q * down * down) * 2 ^ Int.toNat 50
  online : ∀ i0, i0 < P.length → ¬ (P.getD i0 0 - P.getD 0 0 = 0 ∧ Q.getD i0 0 - Q.getD 0 0 = 0) → (∀ i, i < P.length → (P.getD i 0 - P.getD 0 0) * (Q.getD i0 0 - Q.getD 0 0) = (Q.getD i 0 - Q.getD 0 0) * (P.getD i0 0 - P.getD 0 0)) → Float64.val r = 2 ^ 1074 ∨ Float64.val r = -2 ^ 1074
def Told (P Q : List Int) (r : UInt64) : Prop := ∃ sg mm e up down, ToldAt P Q r sg mm e up down
theorem sum_abs {B : Nat} : ∀ {l : List Int}, (∀ v ∈ l, v.natAbs ≤ B) → l.sum.natAbs ≤ l.length * B
  | [], _ => by simp
  | a :: l, h => by
    have h1 := h a (.head _)
    have h2 := sum_abs (l := l) fun v hv => h v (.tail _ hv)
    rw [List.sum_cons, List.length_cons, Nat.succ_mul]
    omega
theorem jointOf_bound {n : Nat} {P Q : List Int} (RP : Row5 n P) (RQ : Row5 n Q) (h2 : 2 ≤ n) (h30 : n ≤ 30) : -2 ^ 80 ≤ jointOf P Q ∧ jointOf P Q ≤ 2 ^ 80 := by
  have bP : ∀ x ∈ P, x.natAbs ≤ 2 ^ 30 := fun x hx => by have := RP.bound h2 h30 x hx; omega
  have bQ : ∀ x ∈ Q, x.natAbs ≤ 2 ^ 30 := fun x hx => by have := RQ.bound h2 h30 x hx; omega
  have h1 := dot_bound bP bQ
  have s1 := sum_abs bP
  have s2 := sum_abs bQ
  rw [RP.length] at h1 s1
  rw [RQ.length] at s2
  have g1 : (dotI P Q).natAbs ≤ 30 * (2 ^ 30 * 2 ^ 30) := Nat.le_trans h1 (Nat.mul_le_mul_right _ h30)
  have g2 : P.sum.natAbs ≤ 30 * 2 ^ 30 := Nat.le_trans s1 (Nat.mul_le_mul_right _ h30)
  have g3 : Q.sum.natAbs ≤ 30 * 2 ^ 30 := Nat.le_trans s2 (Nat.mul_le_mul_right _ h30)
  have g4 : ((n : Int) * dotI P Q).natAbs ≤ 30 * (30 * (2 ^ 30 * 2 ^ 30)) := by rw [Int.natAbs_mul, Int.natAbs_natCast]; exact Nat.mul_le_mul h30 g1
  have g5 : (P.sum * Q.sum).natAbs ≤ 30 * 2 ^ 30 * (30 * 2 ^ 30) := by rw [Int.natAbs_mul]; exact Nat.mul_le_mul g2 g3
  have e : jointOf P Q = (n : Int) * dotI P Q - P.sum * Q.sum := by unfold jointOf dotI; rw [RP.length]
  rw [e]
  omega
end Mine
end
section
open PySem PySem.Float64
set_option Elab.async false
set_option maxRecDepth 100000
set_option exponentiation.threshold 3000
set_option maxHeartbeats 1000000
namespace Mine
theorem yf_E {v : Int} (h : v.natAbs ≤ 2 ^ 53) : E 1071 (yf v) v := by
  unfold yf
  refine (isF_ofFrac v 8 (by decide)).exact (by decide) ?_ h
  rw [show (1074 : Nat) = 3 + 1071 by rfl, pow_add']
  show v * (8 * _) = 8 * (v * _)
  ac_rfl
theorem mean_spec {c d : Nat} (hc : c = d + 4) {fx : UInt64} {S M : Int} {n : Nat} (hf : E c fx S) (hn : 1 ≤ n) (hn2 : n ≤ 30) (h : 16 * S = n * M) (hM : M.natAbs ≤ 2 ^ 53) (hd : d ≤ 1980) : E d (Float64.div fx (Float64.ofInt n)) M := by
  have hni := E.ofInt (i := (n : Int)) (by omega)
  have hp : 0 < val (Float64.ofInt (n : Int)) := by
    rw [hni.2, ← Int.natCast_mul]
    exact Int.ofNat_lt.mpr (Nat.mul_pos hn (Nat.two_pow_pos _))
  refine (isF_div hf.1 hni.1 hp).exact hd ?_ hM
  have hv : ((val (Float64.ofInt (n : Int))).natAbs : Int) = (n : Int) * ((2 ^ 1074 : Nat) : Int) := by
    rw [hni.2, ← Int.natCast_mul, Int.natAbs_natCast]
  rw [hv, hf.2, hc, pow_add']
  generalize ((2 ^ 1074 : Nat) : Int) = T
  generalize ((2 ^ d : Nat) : Int) = u
  show S * (u * 16) * T = n * T * (M * u)
  calc S * (u * 16) * T = 16 * S * (u * T) := by ac_rfl
    _ = n * M * (u * T) := by rw [h]
    _ = _ := by ac_rfl
theorem dev_EL {c d : Nat} (hc : c = d + 4) {g : Int → UInt64} {mean : UInt64} {M : Int} (hm : E d mean M) (hM : M.natAbs ≤ 2 ^ 50) (hd : d ≤ 1980) : ∀ {P : List Int}, (∀ v ∈ P, v.natAbs ≤ 2 ^ 30 ∧ E c (g v) v) → EL d ((P.map g).map fun f => Float64.sub f mean) (devI P M)
  | [], _ => .nil
  | v :: P, h => by
    obtain ⟨h1, h2⟩ := h v (.head _)
    subst hc
    have h3 : E d (g v) (v * 16) := h2.scale
    exact .cons (h3.sub hm (by omega) hd) (dev_EL rfl hm hM hd fun x hx => h x (.tail _ hx))
theorem mean_bound {n : Nat} {P : List Int} {M : Int} (hn : 1 ≤ n) (hl : P.length = n) (hb : ∀ v ∈ P, v.natAbs ≤ 2 ^ 30) (h : 16 * P.sum = n * M) : M.natAbs ≤ 2 ^ 34 := by
  have h1 := sum_abs hb
  rw [hl] at h1
  have h2 := congrArg Int.natAbs h
  rw [Int.natAbs_mul, Int.natAbs_mul, Int.natAbs_natCast] at h2
  have h3 : n * M.natAbs ≤ n * 2 ^ 34 := by
    rw [← h2]
    show 16 * P.sum.natAbs ≤ _
    omega
  exact Nat.le_of_mul_le_mul_left h3 (by omega)
/-- what correlation computes from two rows, up to the root -/
theorem corr_data {n : Nat} {P Q : List Int} (RP : Row5 n P) (RQ : Row5 n Q) (h2 : 2 ≤ n) (h30 : n ≤ 30) :
    ∃ fx fy rxy rxx ryy, ∃ M M' : Int, 16 * P.sum = n * M ∧ 16 * Q.sum = n * M' ∧
      (∀ so, SqRun (Float64.add (Float64.ofInt 0) (Builtin.Math.tlToFloat rxx)) (Float64.add (Float64.ofInt 0) (Builtin.Math.tlToFloat ryy)) so → CorrData n P Q fx fy rxy rxx ryy so) ∧
      E 1063 (Float64.add (Float64.ofInt 0) (Builtin.Math.tlToFloat rxy)) (dotI (devI P M) (devI Q M')) ∧
      E 1066 (Float64.add (Float64.ofInt 0) (Builtin.Math.tlToFloat rxx)) (dotI (devI P M) (devI P M)) ∧
      E 1060 (Float64.add (Float64.ofInt 0) (Builtin.Math.tlToFloat ryy)) (dotI (devI Q M') (devI Q M')) ∧
      (dotI (devI P M) (devI Q M')).natAbs ≤ 2 ^ 31 ∧ (dotI (devI P M) (devI P M)).natAbs ≤ 2 ^ 31 ∧ (dotI (devI Q M') (devI Q M')).natAbs ≤ 2 ^ 31 := by
  have lP := RP.length
  have lQ := RQ.length
  have bP : ∀ x ∈ P, x.natAbs ≤ 2 ^ 30 := fun x hx => by have := RP.bound h2 h30 x hx; omega
  have bQ : ∀ x ∈ Q, x.natAbs ≤ 2 ^ 30 := fun x hx => by have := RQ.bound h2 h30 x hx; omega
  obtain ⟨b, M, _, hb, hM⟩ := row_facts RP h2 h30
  obtain ⟨b', M', _, hb', hM'⟩ := row_facts RQ h2 h30
  have mb := mean_bound (by omega) lP bP hM
  have mb' := mean_bound (by omega) lQ bQ hM'
  have db := dev_bound lP (by omega) hb hM
  have db' := dev_bound lQ (by omega) hb' hM'
  obtain ⟨fx, f1, e1⟩ := fs_run (c := 1074) (B := 2 ^ 30) (g := Float64.ofInt) (by decide) P [] 0 (.inl ⟨rfl, rfl⟩) (fun v hv => ⟨bP v hv, E.ofInt (Nat.le_trans (bP v hv) (by decide))⟩) (by rw [lP]; show 0 + n * 2 ^ 30 ≤ 2 ^ 53; omega)
  obtain ⟨fy, f2, e2⟩ := fs_run (c := 1071) (B := 2 ^ 30) (g := yf) (by decide) Q [] 0 (.inl ⟨rfl, rfl⟩) (fun v hv => ⟨bQ v hv, yf_E (Nat.le_trans (bQ v hv) (by decide))⟩) (by rw [lQ]; show 0 + n * 2 ^ 30 ≤ 2 ^ 53; omega)
  rw [Int.zero_add] at e1 e2
  have m1 := mean_spec (d := 1070) rfl e1 (by omega) h30 hM (by omega) (by decide)
  have m2 := mean_spec (d := 1067) rfl e2 (by omega) h30 hM' (by omega) (by decide)
  have d1 := dev_EL (c := 1074) rfl (g := Float64.ofInt) m1 (by omega) (by decide) (P := P) fun v hv => ⟨bP v hv, E.ofInt (Nat.le_trans (bP v hv) (by decide))⟩
  have d2 := dev_EL (c := 1071) rfl (g := yf) m2 (by omega) (by decide) (P := Q) fun v hv => ⟨bQ v hv, yf_E (Nat.le_trans (bQ v hv) (by decide))⟩
  have l1 : (devI P M).length = n := by rw [devI_length, lP]
  have l2 : (devI Q M').length = n := by rw [devI_length, lQ]
  have nb : n * (2 ^ 13 * 2 ^ 13) ≤ 30 * (2 ^ 13 * 2 ^ 13) := Nat.mul_le_mul_right _ h30
  have q1 : (dotI (devI P M) (devI Q M')).natAbs ≤ 2 ^ 31 := by have := dot_bound db db'; rw [l1] at this; omega
  have q2 : (dotI (devI P M) (devI P M)).natAbs ≤ 2 ^ 31 := by have := dot_bound db db; rw [l1] at this; omega
  have q3 : (dotI (devI Q M') (devI Q M')).natAbs ≤ 2 ^ 31 := by have := dot_bound db' db'; rw [l2] at this; omega
  obtain ⟨rxy, s1, g1⟩ := sp_float (d := 1070) (e := 1067) (f := 1063) rfl (by decide) d1 d2 (l1.trans l2.symm) db db' (by rw [l1]; omega) (by omega)
  obtain ⟨rxx, s2, g2⟩ := sp_float (d := 1070) (e := 1070) (f := 1066) rfl (by decide) d1 d1 rfl db db (by rw [l1]; omega) (by omega)
  obtain ⟨ryy, s3, g3⟩ := sp_float (d := 1067) (e := 1067) (f := 1060) rfl (by decide) d2 d2 rfl db' db' (by rw [l2]; omega) (by omega)
  exact ⟨fx, fy, rxy, rxx, ryy, M, M', hM, hM', fun so hs => ⟨f1, f2, s1, s2, s3, hs⟩, g1, g2, g3, q1, q2, q3⟩
end Mine
end
section
open PySem PySem.Float64
set_option Elab.async false
set_option maxRecDepth 100000
set_option exponentiation.threshold 3000
set_option maxHeartbeats 1000000
namespace Mine
theorem told_arith {v s Z M : Int} (hs : 0 < s) (hM : 0 < M) (h1 : 2 ^ 53 * (Z - s * v).natAbs ≤ Z.natAbs) (h2 : 2 ^ 60 * (s * s - M).natAbs ≤ 516 * M.natAbs) :
    2 ^ 50 * (v * v * M - Z * Z).natAbs ≤ Z.natAbs * Z.natAbs := by
  have e0 : (s * v * (s * v) - Z * Z).natAbs = (Z - s * v).natAbs * (2 * Z - (Z - s * v)).natAbs := by
    rw [← Int.natAbs_mul, ← Int.natAbs_neg]; congr 1; grind
  have a1 : 2 ^ 53 * (2 * Z - (Z - s * v)).natAbs ≤ (2 ^ 54 + 1) * Z.natAbs := by
    have : (2 * Z - (Z - s * v)).natAbs ≤ 2 * Z.natAbs + (Z - s * v).natAbs := by omega
    omega
  have a2 : 2 ^ 106 * (s * v * (s * v) - Z * Z).natAbs ≤ (2 ^ 54 + 1) * (Z.natAbs * Z.natAbs) := by
    rw [e0]
    have := Nat.mul_le_mul h1 a1
    calc _ = 2 ^ 53 * (Z - s * v).natAbs * (2 ^ 53 * (2 * Z - (Z - s * v)).natAbs) := by rw [show (2 : Nat) ^ 106 = 2 ^ 53 * 2 ^ 53 by rfl]; ac_rfl
      _ ≤ _ := this
      _ = _ := by ac_rfl
  have e1 : (v * v * M - Z * Z) * (s * s) = (s * v * (s * v) - Z * Z) * M + Z * Z * (M - s * s) := by grind
  have a3 : (v * v * M - Z * Z).natAbs * (s * s).natAbs ≤ (s * v * (s * v) - Z * Z).natAbs * M.natAbs + Z.natAbs * Z.natAbs * (s * s - M).natAbs := by
    rw [← Int.natAbs_mul, e1]
    refine Nat.le_trans (Int.natAbs_add_le _ _) ?_
    rw [Int.natAbs_mul, Int.natAbs_mul, Int.natAbs_mul Z Z, show (M - s * s).natAbs = (s * s - M).natAbs by rw [← Int.natAbs_neg]; congr 1; omega]
    exact Nat.le_refl _
  have hss : 0 < (s * s).natAbs := by have := Int.mul_pos hs hs; omega
  have a4 : 773 * M.natAbs ≤ 1024 * (s * s).natAbs := by omega
  generalize (s * v * (s * v) - Z * Z).natAbs = e at *
  generalize hzz : Z.natAbs * Z.natAbs = zz at *
  generalize (s * s - M).natAbs = d at *
  generalize (s * s).natAbs = ss at *
  generalize (v * v * M - Z * Z).natAbs = k at *
  generalize M.natAbs = m at *
  have b1 : 2 ^ 106 * (e * m) ≤ (2 ^ 54 + 1) * (zz * m) := by
    rw [← Nat.mul_assoc, ← Nat.mul_assoc]; exact Nat.mul_le_mul_right m a2
  have b2 : 2 ^ 60 * (zz * d) ≤ 516 * (zz * m) := by
    have := Nat.mul_le_mul_left zz h2
    calc _ = zz * (2 ^ 60 * d) := by ac_rfl
      _ ≤ _ := this
      _ = _ := by ac_rfl
  have b3 : 773 * (zz * m) ≤ 1024 * (zz * ss) := by
    have := Nat.mul_le_mul_left zz a4
    calc _ = zz * (773 * m) := by ac_rfl
      _ ≤ _ := this
      _ = _ := by ac_rfl
  have b4 : 2 ^ 50 * (k * ss) ≤ zz * ss := by omega
  rw [← Nat.mul_assoc] at b4
  exact Nat.le_of_mul_le_mul_right b4 hss
theorem ratio_spec {m : Nat} {e : Int} (he : -1074 ≤ e) : 0 < (ratio m e).2 ∧ (ratio m e).1 * 2 ^ 1074 = m * 2 ^ (e + 1074).toNat * (ratio m e).2 ∧ (ratio m e).1 ≤ (shift m 1 e).1 ∧ (ratio m e).2 ≤ (shift m 1 e).2 ∧ (m = 0 → (ratio m e).2 = 1) := by
  have h1 := shift_one m e 1074 he
  have h2 : 0 < (shift m 1 e).2 := shift_pos _ _ _ (by decide)
  have h3 : m = 0 → (shift m 1 e).1 = 0 := by
    rintro rfl
    unfold shift
    split <;> simp
  have e1 : ratio m e = ((shift m 1 e).1 / (shift m 1 e).1.gcd (shift m 1 e).2, (shift m 1 e).2 / (shift m 1 e).1.gcd (shift m 1 e).2) := rfl
  rw [e1]
  dsimp only
  generalize (shift m 1 e).1 = a at *
  generalize (shift m 1 e).2 = b at *
  have hg : 0 < a.gcd b := Nat.gcd_pos_of_pos_right _ h2
  obtain ⟨u, hu⟩ := Nat.gcd_dvd_left a b
  obtain ⟨d, hd⟩ := Nat.gcd_dvd_right a b
  have e2 : a / a.gcd b = u := Nat.div_eq_of_eq_mul_right hg hu
  have e3 : b / a.gcd b = d := Nat.div_eq_of_eq_mul_right hg hd
  rw [e2, e3]
  refine ⟨?_, ?_, ?_, ?_, ?_⟩
  · rcases Nat.eq_zero_or_pos d with q | q
    · rw [q, Nat.mul_zero] at hd; omega
    · exact q
  · refine Nat.eq_of_mul_eq_mul_left hg ?_
    generalize a.gcd b = g at *
    rw [hu, hd] at h1
    push_cast at h1
    calc g * (u * 2 ^ 1074) = g * u * 2 ^ 1074 := by ac_rfl
      _ = m * 2 ^ (e + 1074).toNat * (g * d) := h1
      _ = _ := by ac_rfl
  · rw [← e2]; exact Nat.div_le_self _ _
  · rw [← e3]; exact Nat.div_le_self _ _
  · intro q
    have ha := h3 q
    rw [ha, Nat.gcd_zero_left] at e3
    rw [← e3]; exact Nat.div_self h2
theorem line_sum {p0 q0 c d : Int} : ∀ {P Q : List Int}, P.length = Q.length → (∀ i, i < P.length → (P.getD i 0 - p0) * d = (Q.getD i 0 - q0) * c) → (P.sum - P.length * p0) * d = (Q.sum - P.length * q0) * c
  | [], [], _, _ => by simp
  | p :: P, q :: Q, hl, h => by
    have h0 := h 0 (by simp)
    have ih := line_sum (p0 := p0) (q0 := q0) (c := c) (d := d) (P := P) (Q := Q) (by simpa using hl) fun i hi => by
      have := h (i + 1) (by simpa using hi)
      simpa using this
    simp only [List.getD_cons_zero] at h0
    rw [List.sum_cons, List.sum_cons, List.length_cons]
    push_cast
    grind
theorem line_dot {M M' c d : Int} : ∀ {P Q : List Int}, P.length = Q.length → (∀ i, i < P.length → (P.getD i 0 * 16 - M) * d = (Q.getD i 0 * 16 - M') * c) →
    dotI (devI P M) (devI P M) * d = dotI (devI P M) (devI Q M') * c ∧ dotI (devI P M) (devI Q M') * d = dotI (devI Q M') (devI Q M') * c
  | [], [], _, _ => by simp [dotI, devI]
  | p :: P, q :: Q, hl, h => by
    have h0 := h 0 (by simp)
    obtain ⟨i1, i2⟩ := line_dot (M := M) (M' := M') (c := c) (d := d) (P := P) (Q := Q) (by simpa using hl) fun i hi => by
      have := h (i + 1) (by simpa using hi)
      simpa using this
    simp only [List.getD_cons_zero] at h0
    have e1 : dotI (devI (p :: P) M) (devI (p :: P) M) = (p * 16 - M) * (p * 16 - M) + dotI (devI P M) (devI P M) := by simp [dotI, devI]
    have e2 : dotI (devI (p :: P) M) (devI (q :: Q) M') = (p * 16 - M) * (q * 16 - M') + dotI (devI P M) (devI Q M') := by simp [dotI, devI]
    have e3 : dotI (devI (q :: Q) M') (devI (q :: Q) M') = (q * 16 - M') * (q * 16 - M') + dotI (devI Q M') (devI Q M') := by simp [dotI, devI]
    rw [e1, e2, e3]
    generalize p * 16 - M = a at *
    generalize q * 16 - M' = b at *
    constructor
    · rw [Int.add_mul, Int.add_mul, i1, Int.mul_assoc, h0]; grind
    · rw [Int.add_mul, Int.add_mul, i2]
      have : a * b * d = b * b * c := by rw [Int.mul_comm a b, Int.mul_assoc, h0]; grind
      rw [this]
/-- all points on one line: the square is whole -/
theorem line_square {n : Nat} {P Q : List Int} {M M' : Int} (hn : 1 ≤ n) (hP : P.length = n) (hQ : Q.length = n) (h1 : 16 * P.sum = n * M) (h2 : 16 * Q.sum = n * M') (hA : dotI (devI P M) (devI P M) ≠ 0) (hB : dotI (devI Q M') (devI Q M') ≠ 0)
    {c d : Int} (hcd : ¬ (c = 0 ∧ d = 0)) (h : ∀ i, i < P.length → (P.getD i 0 - P.getD 0 0) * d = (Q.getD i 0 - Q.getD 0 0) * c) :
    dotI (devI P M) (devI P M) * dotI (devI Q M') (devI Q M') = dotI (devI P M) (devI Q M') * dotI (devI P M) (devI Q M') := by
  have hs := line_sum (hP.trans hQ.symm) h
  rw [hP] at hs
  have hn0 : (n : Int) ≠ 0 := by omega
  have hm : (M - 16 * P.getD 0 0) * d = (M' - 16 * Q.getD 0 0) * c := by
    refine Int.eq_of_mul_eq_mul_left hn0 ?_
    have e1 : (n : Int) * ((M - 16 * P.getD 0 0) * d) = 16 * ((P.sum - n * P.getD 0 0) * d) := by
      rw [← Int.mul_assoc, Int.mul_sub, ← h1]; grind
    have e2 : (n : Int) * ((M' - 16 * Q.getD 0 0) * c) = 16 * ((Q.sum - n * Q.getD 0 0) * c) := by
      rw [← Int.mul_assoc, Int.mul_sub, ← h2]; grind
    rw [e1, e2, hs]
  obtain ⟨i1, i2⟩ := line_dot (M := M) (M' := M') (c := c) (d := d) (hP.trans hQ.symm) fun i hi => by
    have := h i hi
    grind
  generalize dotI (devI P M) (devI P M) = A at *
  generalize dotI (devI Q M') (devI Q M') = B at *
  generalize dotI (devI P M) (devI Q M') = C at *
  by_cases hc : c = 0
  · rw [hc, Int.mul_zero] at i1
    rcases Int.mul_eq_zero.mp i1 with q | q
    · exact absurd q hA
    · exact absurd ⟨hc, q⟩ hcd
  · by_cases hd : d = 0
    · rw [hd, Int.mul_zero] at i2
      rcases Int.mul_eq_zero.mp i2.symm with q | q
      · exact absurd q hB
      · exact absurd q hc
    · refine Int.eq_of_mul_eq_mul_right (Int.mul_ne_zero hc hd) ?_
      calc A * B * (c * d) = A * d * (B * c) := by ac_rfl
        _ = C * c * (C * d) := by rw [i1, i2]
        _ = _ := by ac_rfl
end Mine
end
section
open PySem PySem.Float64
set_option Elab.async false
set_option maxRecDepth 100000
set_option exponentiation.threshold 5000
set_option maxHeartbeats 1000000
namespace Mine
theorem near_scale {v A B C up : Int} {dn n : Nat} {jp jq jj : Int} (hn : 1 ≤ n) (hA : (n : Int) * A = 256 * jp) (hB : (n : Int) * B = 256 * jq) (hC : (n : Int) * C = 256 * jj) {T : Nat} (hT : 0 < T) (hup : up * (T : Int) = v * (dn : Int))
    (h : 2 ^ 50 * (v * v * (A * B) - C * C * ((T * T : Nat) : Int)).natAbs ≤ (C * C * ((T * T : Nat) : Int)).natAbs) :
    2 ^ 50 * (up * up * jp * jq - jj * jj * dn * dn).natAbs ≤ (jj * jj * dn * dn).natAbs := by
  have e1 : (65536 * ((T * T : Nat) : Int)) * (up * up * jp * jq - jj * jj * dn * dn) = ((n * n * (dn * dn) : Nat) : Int) * (v * v * (A * B) - C * C * ((T * T : Nat) : Int)) := by
    have q1 : (65536 * ((T * T : Nat) : Int)) * (up * up * jp * jq) = (up * (T : Int)) * (up * (T : Int)) * (256 * jp) * (256 * jq) := by push_cast; grind
    have q2 : (65536 * ((T * T : Nat) : Int)) * (jj * jj * dn * dn) = ((T * T : Nat) : Int) * (256 * jj) * (256 * jj) * dn * dn := by push_cast; grind
    rw [Int.mul_sub, q1, q2, hup, ← hA, ← hB, ← hC]
    push_cast
    grind
  have e2 : (65536 * ((T * T : Nat) : Int)) * (jj * jj * dn * dn) = ((n * n * (dn * dn) : Nat) : Int) * (C * C * ((T * T : Nat) : Int)) := by
    have q2 : (65536 * ((T * T : Nat) : Int)) * (jj * jj * dn * dn) = ((T * T : Nat) : Int) * (256 * jj) * (256 * jj) * dn * dn := by push_cast; grind
    rw [q2, ← hC]
    push_cast
    grind
  have a1 := congrArg Int.natAbs e1
  have a2 := congrArg Int.natAbs e2
  rw [Int.natAbs_mul, Int.natAbs_mul 65536, Int.natAbs_natCast, Int.natAbs_mul ((n * n * (dn * dn) : Nat) : Int), Int.natAbs_natCast] at a1 a2
  have hp : 0 < (65536 : Int).natAbs * (T * T) := Nat.mul_pos (by decide) (Nat.mul_pos hT hT)
  refine Nat.le_of_mul_le_mul_left ?_ hp
  rw [Nat.mul_left_comm, a1, a2, Nat.mul_left_comm]
  exact Nat.mul_le_mul_left _ h
theorem near_two {Z y : Int} (h : 2 ^ 53 * (Z - y).natAbs ≤ Z.natAbs) : y.natAbs ≤ 2 * Z.natAbs ∧ Z.natAbs ≤ 2 * y.natAbs ∧ (Z = 0 → y.natAbs = 0) := by omega
theorem lo1060 {x : Int} (h : 2 ^ 1060 ≤ x) : 2 ^ 1060 ≤ x.natAbs := by omega
theorem hi1100 {x : Int} (h0 : 0 < x) (h : x ≤ 2 ^ 1100) : x.natAbs ≤ 2 ^ 1100 := by omega
theorem sign_near {x y : Int} (h : 2 ^ 53 * (y - x).natAbs ≤ y.natAbs) (a1 : x * y < 0) : False := by
  rcases Int.lt_trichotomy x 0 with q | q | q
  · have hy : 0 < y := by
      rcases (by omega : 0 < y ∨ y ≤ 0) with g | g
      · exact g
      · have := Int.mul_nonneg_of_nonpos_of_nonpos (Int.le_of_lt q) g; omega
    clear a1
    omega
  · rw [q, Int.zero_mul] at a1; omega
  · have hy : y < 0 := by
      rcases (by omega : y < 0 ∨ 0 ≤ y) with g | g
      · exact g
      · have := Int.mul_nonneg (Int.le_of_lt q) g; omega
    clear a1
    omega
theorem near_if {due x : Int} (hns : 2 ^ 50 * (x - due).natAbs ≤ due.natAbs) (hnn : 0 ≤ due) : ¬ due < (if x - due < 0 then -(x - due) else x - due) * 2 ^ 50 := by
  split <;> omega
theorem up_bound {x : Int} {u : Nat} (h : x.natAbs = u) (h2 : u ≤ 2 ^ 60) : -2 ^ 60 ≤ x ∧ x ≤ 2 ^ 60 := by omega
theorem told_spec {n : Nat} {P Q : List Int} {M M' : Int} {sxy so : UInt64} {A B : Nat} (hn : 1 ≤ n) (hP : P.length = n) (hQ : Q.length = n) (h1 : 16 * P.sum = n * M) (h2 : 16 * Q.sum = n * M')
    (hA : dotI (devI P M) (devI P M) = A) (hB : dotI (devI Q M') (devI Q M') = B) (hA1 : 1 ≤ A) (hB1 : 1 ≤ B) (hC : E 1063 sxy (dotI (devI P M) (devI Q M'))) (hCb : (dotI (devI P M) (devI Q M')).natAbs ≤ 2 ^ 31)
    (fs : IsF so) (s1 : 2 ^ 1060 ≤ val so) (s2 : val so ≤ 2 ^ 1100) (s3 : 2 ^ 60 * (val so * val so - ((A * B * 2 ^ 2126 : Nat) : Int)).natAbs ≤ 516 * (A * B * 2 ^ 2126)) (s4 : ∀ C : Nat, A * B = C * C → val so = ((C * 2 ^ 1063 : Nat) : Int)) :
    Told P Q (Float64.div sxy so) := by
  have hAB : 1 ≤ A * B := Nat.mul_le_mul hA1 hB1
  have spos : 0 < val so := Int.lt_of_lt_of_le (by decide) s1
  have jA := dot_joint hP hP h1 h1
  have jB := dot_joint hQ hQ h2 h2
  have jC := dot_joint hP hQ h1 h2
  have eA : (n : Int) * dotI P P - P.sum * P.sum = jointOf P P := by unfold jointOf dotI; rw [hP]
  have eB : (n : Int) * dotI Q Q - Q.sum * Q.sum = jointOf Q Q := by unfold jointOf dotI; rw [hQ]
  have eC : (n : Int) * dotI P Q - P.sum * Q.sum = jointOf P Q := by unfold jointOf dotI; rw [hP]
  rw [eA] at jA
  rw [eB] at jB
  rw [eC] at jC
  have hline := @line_square n P Q M M' hn hP hQ h1 h2
  rw [hA] at jA
  rw [hB] at jB
  rw [hA, hB] at hline
  generalize dotI (devI P M) (devI Q M') = C at *
  have nr := isF_div hC.1 fs spos
  have hZ : val sxy * ((2 ^ 1074 : Nat) : Int) = C * ((2 ^ 2137 : Nat) : Int) := by
    rw [hC.2, Int.mul_assoc, ← Int.natCast_mul, ← Nat.pow_add]
  rw [hZ] at nr
  have hsn : ((val so).natAbs : Int) = val so := Int.natAbs_of_nonneg (Int.le_of_lt spos)
  have hsl : 2 ^ 1060 ≤ (val so).natAbs := lo1060 s1
  have hsh : (val so).natAbs ≤ 2 ^ 1100 := hi1100 spos s2
  -- the quotient is near
  have hrel : IsF (Float64.div sxy so) ∧ 2 ^ 53 * (C * ((2 ^ 2137 : Nat) : Int) - val so * val (Float64.div sxy so)).natAbs ≤ (C * ((2 ^ 2137 : Nat) : Int)).natAbs := by
    by_cases hC0 : C = 0
    · obtain ⟨f, g⟩ := nr.exact (q := 0) (c := 0) (by decide) (by rw [hC0]; simp) (by decide)
      refine ⟨f, ?_⟩
      rw [g, hC0]; simp
    · have hC1 : 1 ≤ C.natAbs := by omega
      have hn1 : (C * ((2 ^ 2137 : Nat) : Int)).natAbs = C.natAbs * 2 ^ 2137 := by rw [Int.natAbs_mul, Int.natAbs_natCast]
      have := nr.rel (by
        rw [hn1]
        calc (val so).natAbs * 2 ^ 52 ≤ 2 ^ 1100 * 2 ^ 52 := Nat.mul_le_mul_right _ hsh
          _ = 2 ^ 1152 := by rw [← Nat.pow_add]
          _ ≤ 2 ^ 2137 := Nat.pow_le_pow_right (by decide) (by decide)
          _ ≤ C.natAbs * 2 ^ 2137 := Nat.le_mul_of_pos_left _ hC1) (by
        rw [hn1]
        calc C.natAbs * 2 ^ 2137 ≤ 2 ^ 31 * 2 ^ 2137 := Nat.mul_le_mul_right _ hCb
          _ = 2 ^ 2168 := by rw [← Nat.pow_add]
          _ ≤ 2 ^ (1060 + 2000) := Nat.pow_le_pow_right (by decide) (by decide)
          _ = 2 ^ 1060 * 2 ^ 2000 := Nat.pow_add ..
          _ ≤ _ := Nat.mul_le_mul_right _ hsl)
      rw [hsn] at this
      exact this
  obtain ⟨fr, hr⟩ := hrel
  have honl : ∀ D : Nat, A * B = D * D → D = C.natAbs → val (Float64.div sxy so) = 2 ^ 1074 ∨ val (Float64.div sxy so) = -2 ^ 1074 := by
    intro D hD hDC
    have hv := s4 D hD
    have hD0 : 0 < D := by
      rcases Nat.eq_zero_or_pos D with q | q
      · rw [q] at hD; omega
      · exact q
    have p1 : (((2 ^ 1074 : Nat) : Int)) = 2 ^ 1074 := by rw [Int.natCast_pow]; rfl
    have p2 : (2 : Nat) ^ 2137 = 2 ^ 1063 * 2 ^ 1074 := by rw [← Nat.pow_add]
    rw [hv, Int.natAbs_natCast] at nr
    rcases Int.natAbs_eq C with q | q
    · left
      have := (nr.exact (q := 1) (c := 1074) (by decide) (by rw [q, ← hDC, p2, Int.one_mul, ← Int.natCast_mul, ← Int.natCast_mul, Nat.mul_assoc]) (by decide)).2
      rw [this, Int.one_mul, p1]
    · right
      have := (nr.exact (q := -1) (c := 1074) (by decide) (by
        rw [q, ← hDC, p2, Int.neg_mul, Int.neg_mul, Int.one_mul, Int.mul_neg, ← Int.natCast_mul, ← Int.natCast_mul, Nat.mul_assoc]) (by decide)).2
      rw [this, Int.neg_mul, Int.one_mul, p1]
  obtain ⟨sg, mm, ex, hd⟩ := id fr
  obtain ⟨v, hv⟩ : ∃ v, val (Float64.div sxy so) = v := ⟨_, rfl⟩
  have hve := val_eq hd
  have hvn := val_natAbs hd
  rw [hv] at hr hve hvn honl
  obtain ⟨r1, r2, r3, r4, r5⟩ := ratio_spec (m := mm) (decode_ge hd)
  have hlt := decode_le hd
  have hge := decode_ge hd
  obtain ⟨u, hu⟩ : ∃ u, (ratio mm ex).1 = u := ⟨_, rfl⟩
  obtain ⟨dn, hdn⟩ : ∃ dn, (ratio mm ex).2 = dn := ⟨_, rfl⟩
  rw [hdn] at r1 r2 r4 r5
  rw [hu] at r2 r3
  have hup : sgn sg u * ((2 ^ 1074 : Nat) : Int) = v * (dn : Int) := by
    rw [← sgn_mul, r2, hve, sgn_mul]
  have zpos : 0 < 2 ^ 2137 := Nat.two_pow_pos _
  -- the bound of what is told
  have hva : v.natAbs ≤ 2 ^ 1110 := by
    have a1 := (near_two hr).1
    rw [Int.natAbs_mul, Int.natAbs_mul, Int.natAbs_natCast] at a1
    have a2 : 2 ^ 1060 * v.natAbs ≤ 2 ^ 1060 * 2 ^ 1110 := by
      calc 2 ^ 1060 * v.natAbs ≤ (val so).natAbs * v.natAbs := Nat.mul_le_mul_right _ hsl
        _ ≤ 2 * (C.natAbs * 2 ^ 2137) := a1
        _ ≤ 2 * (2 ^ 31 * 2 ^ 2137) := Nat.mul_le_mul_left _ (Nat.mul_le_mul_right _ hCb)
        _ = 2 ^ 2169 := by rw [← Nat.pow_add, Nat.mul_comm, ← Nat.pow_succ]
        _ ≤ 2 ^ 2170 := Nat.pow_le_pow_right (by decide) (by decide)
        _ = _ := by rw [← Nat.pow_add]
    exact Nat.le_of_mul_le_mul_left a2 (Nat.two_pow_pos _)
  have hub : u ≤ 2 ^ 60 := by
    refine Nat.le_trans r3 ?_
    unfold shift
    split
    · rename_i h0
      rw [hvn, show (ex + 1074).toNat = ex.toNat + 1074 by omega, Nat.pow_add, ← Nat.mul_assoc] at hva
      have : mm * 2 ^ ex.toNat * 2 ^ 1074 ≤ 2 ^ 36 * 2 ^ 1074 := by rw [← Nat.pow_add]; exact hva
      exact Nat.le_trans (Nat.le_of_mul_le_mul_right this (Nat.two_pow_pos _)) (by decide)
    · exact Nat.le_trans (Nat.le_of_lt hlt.1) (by decide)
  have hdb : dn ≤ 2 ^ 200 := by
    by_cases hm : mm = 0
    · rw [r5 hm]; exact Nat.one_le_two_pow
    · have hC0 : C ≠ 0 := by
        rintro rfl
        rw [Int.zero_mul] at hr
        have h3 : (val so * v).natAbs = 0 := (near_two hr).2.2 rfl
        rw [Int.natAbs_mul, hvn] at h3
        have := Nat.mul_pos (show 0 < (val so).natAbs by omega) (Nat.mul_pos (show 0 < mm by omega) (Nat.two_pow_pos (ex + 1074).toNat))
        omega
      have a1 := (near_two hr).2.1
      rw [Int.natAbs_mul, Int.natAbs_mul, Int.natAbs_natCast, hvn] at a1
      have a2 : 2 ^ 2137 ≤ 2 ^ (1154 + (ex + 1074).toNat) := by
        calc 2 ^ 2137 ≤ C.natAbs * 2 ^ 2137 := Nat.le_mul_of_pos_left _ (by omega)
          _ ≤ _ := a1
          _ ≤ 2 * (2 ^ 1100 * (2 ^ 53 * 2 ^ (ex + 1074).toNat)) := Nat.mul_le_mul_left _ (Nat.mul_le_mul hsh (Nat.mul_le_mul_right _ (Nat.le_of_lt hlt.1)))
          _ = 2 ^ (1154 + (ex + 1074).toNat) := by
            rw [show 1154 + (ex + 1074).toNat = 1 + (1100 + (53 + (ex + 1074).toNat)) by omega, Nat.pow_add 2 1, Nat.pow_add 2 1100, Nat.pow_add 2 53]
      have a3 := (Nat.pow_le_pow_iff_right (by decide : 1 < 2)).mp a2
      refine Nat.le_trans r4 ?_
      unfold shift
      split
      · exact Nat.one_le_two_pow
      · rw [Nat.one_mul]; exact Nat.pow_le_pow_right (by decide) (by omega)
  have hT0 : 0 < 2 ^ 1074 := Nat.two_pow_pos _
  -- the sign
  have hsign : ¬ v * C < 0 := by
    intro hneg
    have a1 : (val so * v) * (C * ((2 ^ 2137 : Nat) : Int)) < 0 := by
      have e : (val so * v) * (C * ((2 ^ 2137 : Nat) : Int)) = (val so * ((2 ^ 2137 : Nat) : Int)) * (v * C) := by ac_rfl
      rw [e]
      exact Int.mul_neg_of_pos_of_neg (Int.mul_pos spos (Int.ofNat_lt.mpr zpos)) hneg
    exact sign_near hr a1
  have hMpos : (0 : Int) < ((A * B * 2 ^ 2126 : Nat) : Int) := Int.ofNat_lt.mpr (Nat.mul_pos hAB (Nat.two_pow_pos _))
  have hta := told_arith spos hMpos hr (by rw [Int.natAbs_natCast]; exact s3)
  refine ⟨sg, mm, ex, sgn sg u, dn, ⟨hd, by rw [hu], by rw [hdn], ?_, ⟨r1, hdb⟩, ?_, ?_, ?_⟩⟩
  · exact up_bound (sgn_natAbs sg u) hub
  · intro hneg
    refine hsign ?_
    have e : (sgn sg u * jointOf P Q) * (256 * ((2 ^ 1074 : Nat) : Int)) = (v * C) * ((n * dn : Nat) : Int) := by
      calc _ = (sgn sg u * ((2 ^ 1074 : Nat) : Int)) * (256 * jointOf P Q) := by ac_rfl
        _ = v * (dn : Int) * ((n : Int) * C) := by rw [hup, jC]
        _ = _ := by rw [Int.natCast_mul]; ac_rfl
    have a1 : (sgn sg u * jointOf P Q) * (256 * ((2 ^ 1074 : Nat) : Int)) < 0 := Int.mul_neg_of_neg_of_pos hneg (Int.mul_pos (by decide) (Int.ofNat_lt.mpr hT0))
    rw [e] at a1
    rcases (by omega : v * C < 0 ∨ 0 ≤ v * C) with g | g
    · exact g
    · have := Int.mul_nonneg g (Int.natCast_nonneg (n * dn)); omega
  · have hsc : 2 ^ 50 * (v * v * ((A : Int) * (B : Int)) - C * C * ((2 ^ 1074 * 2 ^ 1074 : Nat) : Int)).natAbs ≤ (C * C * ((2 ^ 1074 * 2 ^ 1074 : Nat) : Int)).natAbs := by
      have p1 : (2 : Nat) ^ 2137 * 2 ^ 2137 = 2 ^ 1074 * 2 ^ 1074 * 2 ^ 2126 := by rw [← Nat.pow_add]
      have e1 : v * v * ((A * B * 2 ^ 2126 : Nat) : Int) - C * ((2 ^ 2137 : Nat) : Int) * (C * ((2 ^ 2137 : Nat) : Int)) = (v * v * ((A : Int) * (B : Int)) - C * C * ((2 ^ 1074 * 2 ^ 1074 : Nat) : Int)) * ((2 ^ 2126 : Nat) : Int) := by
        have q1 : C * ((2 ^ 2137 : Nat) : Int) * (C * ((2 ^ 2137 : Nat) : Int)) = C * C * ((2 ^ 1074 * 2 ^ 1074 : Nat) : Int) * ((2 ^ 2126 : Nat) : Int) := by
          rw [Int.mul_assoc (C * C), ← Int.natCast_mul, ← p1, Int.natCast_mul (2 ^ 2137)]; ac_rfl
        rw [q1, Int.sub_mul, Int.natCast_mul (A * B), Int.natCast_mul A, Int.mul_assoc (v * v)]
      have e2 : (C * ((2 ^ 2137 : Nat) : Int)).natAbs * (C * ((2 ^ 2137 : Nat) : Int)).natAbs = (C * C * ((2 ^ 1074 * 2 ^ 1074 : Nat) : Int)).natAbs * 2 ^ 2126 := by
        rw [Int.natAbs_mul, Int.natAbs_natCast, Int.natAbs_mul, Int.natAbs_mul, Int.natAbs_natCast, Nat.mul_assoc _ (2 ^ 1074 * 2 ^ 1074), ← p1]; ac_rfl
      rw [e1, e2, Int.natAbs_mul, Int.natAbs_natCast, ← Nat.mul_assoc] at hta
      exact Nat.le_of_mul_le_mul_right hta (Nat.two_pow_pos _)
    have hns := near_scale hn jA jB jC hT0 hup hsc
    have hnn : 0 ≤ jointOf P Q * jointOf P Q * (dn : Int) * (dn : Int) := by
      have : jointOf P Q * jointOf P Q * (dn : Int) * (dn : Int) = (jointOf P Q * dn) * (jointOf P Q * dn) := by ac_rfl
      rw [this]; exact sq_nonneg' _
    rw [show Int.toNat 50 = 50 by rfl]
    exact near_if hns hnn
  · intro i0 _ hne hall
    rw [hv]
    have hsq := hline (by omega) (by omega) hne fun i hi => hall i hi
    refine honl C.natAbs ?_ rfl
    have := congrArg Int.natAbs hsq
    rw [Int.natAbs_mul, Int.natAbs_mul, Int.natAbs_natCast, Int.natAbs_natCast] at this
    exact this
end Mine
end
section
open PySem PySem.Float64
set_option Elab.async false
set_option maxRecDepth 100000
set_option exponentiation.threshold 5000
set_option maxHeartbeats 1000000
namespace Mine
theorem law_math {n : Nat} {P Q : List Int} (RP : Row5 n P) (RQ : Row5 n Q) (h2 : 2 ≤ n) (h30 : n ≤ 30) : ∃ fx fy rxy rxx ryy so, CorrData n P Q fx fy rxy rxx ryy so ∧ Float64.isZero so = flatB P Q ∧ (flatB P Q = false → Told P Q (Float64.div (Float64.add (Float64.ofInt 0) (Builtin.Math.tlToFloat rxy)) so)) := by
  obtain ⟨fx, fy, rxy, rxx, ryy, M, M', hM, hM', hCD, eC, eA, eB, bC, bA, bB⟩ := corr_data RP RQ h2 h30
  have fP := same_iff RP.length (by omega) hM
  have fQ := same_iff RQ.length (by omega) hM'
  have nA := dot_self_nonneg (devI P M)
  have nB := dot_self_nonneg (devI Q M')
  obtain ⟨A, hA⟩ : ∃ A : Nat, dotI (devI P M) (devI P M) = A := ⟨_, (Int.toNat_of_nonneg nA).symm⟩
  obtain ⟨B, hB⟩ : ∃ B : Nat, dotI (devI Q M') (devI Q M') = B := ⟨_, (Int.toNat_of_nonneg nB).symm⟩
  rw [hA] at fP eA bA
  rw [hB] at fQ eB bB
  by_cases hz : A = 0 ∨ B = 0
  · have hfl : flatB P Q = true := by
      unfold flatB
      rcases hz with q | q
      · simp [fP.mpr (by rw [q]; rfl)]
      · simp [fQ.mpr (by rw [q]; rfl)]
    have hm0 : IsF (Float64.mul (Float64.add (Float64.ofInt 0) (Builtin.Math.tlToFloat rxx)) (Float64.add (Float64.ofInt 0) (Builtin.Math.tlToFloat ryy))) ∧ val (Float64.mul (Float64.add (Float64.ofInt 0) (Builtin.Math.tlToFloat rxx)) (Float64.add (Float64.ofInt 0) (Builtin.Math.tlToFloat ryy))) = 0 := by
      have e0 : (A : Int) * (B : Int) = 0 := by rcases hz with q | q <;> rw [q] <;> simp
      have := eA.mul eB (e := 1052) rfl (by rw [e0]; decide) (by decide)
      rw [e0] at this
      exact ⟨this.1, by rw [this.2, Int.zero_mul]⟩
    obtain ⟨⟨a, m, e, hd⟩, hv⟩ := hm0
    have hm : m = 0 := by
      have := val_natAbs hd
      rw [hv] at this
      rcases Nat.mul_eq_zero.mp this.symm with q | q
      · exact q
      · exact absurd q (Nat.ne_of_gt (Nat.two_pow_pos _))
    have hs : Float64.sqrt (Float64.mul (Float64.add (Float64.ofInt 0) (Builtin.Math.tlToFloat rxx)) (Float64.add (Float64.ofInt 0) (Builtin.Math.tlToFloat ryy))) = Float64.mul (Float64.add (Float64.ofInt 0) (Builtin.Math.tlToFloat rxx)) (Float64.add (Float64.ofInt 0) (Builtin.Math.tlToFloat ryy)) := by
      unfold Float64.sqrt
      rw [hd, hm]
      simp
    have hf : IsF (Float64.sqrt (Float64.mul (Float64.add (Float64.ofInt 0) (Builtin.Math.tlToFloat rxx)) (Float64.add (Float64.ofInt 0) (Builtin.Math.tlToFloat ryy)))) := by rw [hs]; exact ⟨a, m, e, hd⟩
    have hz0 : Float64.isZero (Float64.sqrt (Float64.mul (Float64.add (Float64.ofInt 0) (Builtin.Math.tlToFloat rxx)) (Float64.add (Float64.ofInt 0) (Builtin.Math.tlToFloat ryy)))) = true := hf.zero_iff.mpr (by rw [hs]; exact hv)
    refine ⟨fx, fy, rxy, rxx, ryy, _, hCD _ (SqRun.zero hf.finite (by rw [hf.notNaN]; rfl) hz0 ?_), by rw [hz0, hfl], by rw [hfl]; intro q; cases q⟩
    rcases hz with q | q
    · exact .inl (eA.isZero_iff.mpr (by rw [q]; rfl))
    · exact .inr (eB.isZero_iff.mpr (by rw [q]; rfl))
  · have hA1 : 1 ≤ A := by omega
    have hB1 : 1 ≤ B := by omega
    have hfl : flatB P Q = false := by
      unfold flatB
      have q1 : ¬ SameAll P := fun q => by have := fP.mp q; omega
      have q2 : ¬ SameAll Q := fun q => by have := fQ.mp q; omega
      simp [q1, q2]
    obtain ⟨so, hrun, fs, s1, s2, s3, s4⟩ := root_spec eA eB hA1 (by omega) hB1 (by omega)
    refine ⟨fx, fy, rxy, rxx, ryy, so, hCD so hrun, ?_, fun _ => told_spec (by omega) RP.length RQ.length hM hM' hA hB hA1 hB1 eC bC fs s1 s2 s3 s4⟩
    rw [hfl]
    exact fs.zero_false (by omega)
end Mine
end
section
open PySem PySem.W PySem.Calls PyProof.Rows PySem.Flt PySem.SeqAt
set_option Elab.async false
set_option maxRecDepth 100000
set_option maxHeartbeats 8000000
namespace Mine
local macro_rules | `(tactic| k_steps) => `(tactic| repeat ((first | (k_unfold; (try dsimp only)) | (k_end; wrow_close) | walk1 | (dsimp only; walk1) | (leave1; walk_say "STEP leave1"; try dsimp only)) <;> (try dsimp only)))
local macro_rules | `(tactic| walk_at "exec Assign cons ListComp") => `(tactic| refine Hold.out ?_)
theorem toList_id (l : List Value) : (List.toArray l).toList = l := rfl
local macro_rules | `(tactic| walk_at "call type:list") => `(tactic| (k_here; k_dflt (refine' kup_listOf ?F ?N ?b ?e ?_ ?z; (case F => k_asm); (case N => k_asm); (case b => k_mem); (case e => exact toList_id _); (case z => assumption)); intro D' c' h' F' N' l1; (try k_lt l1)))
local macro_rules | `(tactic| walk_at "compareOp Eq ref ref") => `(tactic| refine Hold.out ?_)
local macro_rules | `(tactic| walk_at "compareOp NotEq ref ref") => `(tactic| refine Hold.out ?_)
local macro_rules | `(tactic| walk_at "call type:str") => `(tactic| refine Hold.out ?_)
local macro_rules | `(tactic| walk_at "getMethod float") => `(tactic| with_reducible refine getMethod_ratio ?_)
local macro_rules | `(tactic| walk_at "call builtin:float.as_integer_ratio") => `(tactic| refine Hold.out ?_)
local macro_rules | `(tactic| walk_at "binaryOp Mult int int") => `(tactic| (k_here; k_dflt (refine' mul_int ?_ ?hm; (case hm => refine' PySem.IntMulOk.of_le ?ba ?bb ?bc; (case ba => (repeat' (first | ((with_reducible show Builtin.Int.intBits _ ≤ _); assumption) | refine' intBits_mul_le ?_ ?_ | refine' intBits_sub_le ?_ ?_ | refine' intBits_natAbs_le ?_))); (case bb => (repeat' (first | ((with_reducible show Builtin.Int.intBits _ ≤ _); assumption) | refine' intBits_mul_le ?_ ?_ | refine' intBits_sub_le ?_ ?_ | refine' intBits_natAbs_le ?_))); (case bc => decide)))))
local macro_rules | `(tactic| walk_at "call ref") => `(tactic| refine Hold.out ?_)
local macro_rules | `(tactic| walk_at "exec If") => `(tactic| refine Hold.out ?_)
local macro_rules | `(tactic| walk_at "eval ListComp Tuple cons") => `(tactic| refine Hold.out ?_)
local macro_rules | `(tactic| walk_at "call type:zip") => `(tactic| refine Hold.out ?_)
local macro_rules | `(tactic| walk_at "eval ListComp Name cons") => `(tactic| refine Hold.out ?_)
local macro_rules | `(tactic| walk_at "subscriptTail Name Constant ref int") => `(tactic| refine Hold.out ?_)
local macro_rules | `(tactic| walk_at "exec Try") => `(tactic| refine Hold.out ?_)
theorem same_lookup {K : Frag} {f : Addr} {a b : Obj} (h1 : K.lookup f = some a) (h2 : K.lookup f = some b) : a = b := by rw [h1] at h2; exact Option.some.inj h2
theorem paired_at {α β : Type} {R : α → β → Prop} : ∀ {l : List α} {ys : List β}, Paired R l ys → ∀ (i : Nat) a, l[i]? = some a → ∃ y, ys[i]? = some y ∧ R a y
  | _, _, .nil, i, a, h => by simp at h
  | _, _, .cons h0 ht, 0, a, h => by cases Option.some.inj h; exact ⟨_, rfl, h0⟩
  | _, _, .cons h0 ht, i + 1, a, h => by simpa using paired_at ht i a (by simpa using h)
theorem sameAll_of_zero {n : Nat} {P : List Int} (hl : P.length = n) (h : ∀ i, i < n → P.getD i 0 - P.getD 0 0 = 0) : SameAll P := by
  have key : ∀ a ∈ P, a = P.getD 0 0 := by
    intro a ha
    obtain ⟨i, hi, rfl⟩ := List.getElem_of_mem ha
    have := h i (by omega)
    rw [List.getD_eq_getElem?_getD, List.getElem?_eq_getElem hi] at this
    simp only [Option.getD_some] at this
    omega
  intro a ha b hb
  rw [key a ha, key b hb]
theorem first_off {n : Nat} {P Q : List Int} (lP : P.length = n) (lQ : Q.length = n) (hf : flatB P Q = false) :
    ∃ i0 rest, (List.range n).filter (fun i => !((P.getD i 0 - P.getD 0 0) == 0 && (Q.getD i 0 - Q.getD 0 0) == 0)) = i0 :: rest := by
  cases q : (List.range n).filter (fun i => !((P.getD i 0 - P.getD 0 0) == 0 && (Q.getD i 0 - Q.getD 0 0) == 0)) with
  | cons i0 rest => exact ⟨i0, rest, rfl⟩
  | nil =>
    have h1 : ∀ i, i < n → P.getD i 0 - P.getD 0 0 = 0 ∧ Q.getD i 0 - Q.getD 0 0 = 0 := by
      intro i hi
      have := (List.filter_eq_nil_iff.mp q) i (List.mem_range.mpr hi)
      simpa using this
    have := sameAll_of_zero lP fun i hi => (h1 i hi).1
    unfold flatB at hf
    simp [this] at hf
theorem News.more {h₀ h : Heap} {L : Addr} {news tups : List (Addr × Obj)} (N : News h₀ L h news) (h' : ∀ p ∈ tups, h.get? p.1 = some p.2 ∧ p.1 ≠ L ∧ h₀.get? p.1 = none) : News h₀ L h (news ++ tups) := fun p hp => by
  rcases List.mem_append.mp hp with hp | hp
  · exact N p hp
  · exact h' p hp
theorem law_tail {w : World} {p : Program} {loose : List Str} {mean : ExcName → Option Value} {mg mb : Str → Option Value} {s : Shared} {Q : Value → Shared → Prop}
  {oc : Value} {od : Option Addr} {name qual : Str} {params : Arguments} {body : List Stmt} {scope : Scope} {dV kV doc pm cdv ct : Value} {an : Option Addr} {osl : Array (Option Value)}
  {h : Heap} {tk : Nat} {L rp rq : Addr} {wp wq : List Value} {n : Nat} {P Qs : List Int} {o1 o2 o3 : Obj} {m : Str → Option Value}
  (X : (Mine.hd.heap_1 w.params).In s.heap) (T : Top p loose mean mg mb s.heap)
  (hk : (Mine.hd.heap_1 w.params).lookup 306 = some ⟨oc, od, .func (fnOf name qual params body scope dV kV doc pm an cdv ct), osl⟩)
  (F : Fr s.heap L h m) (N : News s.heap L h [(rq, listOf (List.toArray wq) wq.length), (rp, listOf (List.toArray wp) wp.length), (L + 1 + 1 + 1, o3), (L + 1 + 1, o2), (L + 1, o1)])
  (nc : (@Ne Nat rp rq) ∧ (@Ne Nat rp (L + 1)) ∧ (@Ne Nat rp (L + 1 + 1)) ∧ (@Ne Nat rp (L + 1 + 1 + 1)) ∧ (@Ne Nat rq (L + 1)) ∧ (@Ne Nat rq (L + 1 + 1)) ∧ (@Ne Nat rq (L + 1 + 1 + 1)))
  (d1 : o1.data = .cell (some (.ref rp))) (d2 : o2.data = .cell (some (.ref rq))) (d3 : o3.data = .cell none)
  (hn2 : 2 ≤ n) (hn30 : n ≤ 30) (RP : Row5 n P) (hIP : IntsAre wp P) (RQ : Row5 n Qs) (hIQ : IntsAre wq Qs) (lenP : P.length = n) (lenQ : Qs.length = n)
  (hq : ∀ h' tk', (∀ b o, s.heap.get? b = some o → h'.get? b = some o) → Q (.bool true) {s with heap := h', toks := tk'}) :
  wpAny (model PySem.Challenge.rw_kp0009_05.row.prog w) (callerA.deeper (envOfC qual scope L 306 cdv)) (execs (body.drop 6) (envOfC qual scope L 306 cdv)) (fun fl s' => Q (match fl with | .ret v => v | _ => .none) s') (fun _ _ => False) { s with heap := h, toks := tk } := by
  revert X hk; w_top off; k_fill; intro X hk
  have e := same_lookup (b := ⟨_, _, .func (fnOf _ _ _ _ _ _ _ _ _ _ _ _), _⟩) hk (by k_is)
  dsimp only [fnOf] at e
  cases e
  dsimp only [List.drop]
  have B := below_caller s.heap
  have bP := RP.bound hn2 hn30
  have bQ := RQ.bound hn2 hn30
  refine wpAny_execs_cons ?_
  refine join_val (s := s) "flat" (.bool (flatB P Qs)) F N ?_ (fun h' tk F5 N6 => ?_)
  · k_steps
    · (rename Fr _ _ _ _ => F'); (rename News _ _ _ _ => N')
      exact ⟨_, _, rfl, Fr_cong F' (flat_one (by assumption) (by assumption) (by assumption) (by assumption) (by assumption)), N'⟩
    · k_steps
      (rename Fr _ _ _ _ => F'); (rename News _ _ _ _ => N')
      exact ⟨_, _, rfl, Fr_cong F' (flat_two (P := P) (by assumption) (by assumption) (by assumption) (by assumption) (by assumption) (by assumption) (by assumption) (by assumption) (by assumption)), N'⟩
  clear F N
  dsimp only
  k_steps
  refine Hold.mk ?_
  refine Assign_list (h₀ := s.heap) (L := L) (Fv := fun v y => ∀ a ta, v = .int a ta → ∃ t, y = .float (Float64.ofFrac (decide (a < 0)) a.natAbs 8) t) rfl rfl (by with_unfolding_all rfl) (by with_unfolding_all rfl) (by decide) rfl (by decide) rfl rfl rfl ?_
  ((first | (k_unfold; (try dsimp only)) | (k_end; wrow_close) | walk1 | (dsimp only; walk1) | (leave1; walk_say "STEP leave1"; try dsimp only)) <;> (try dsimp only))
  refine ⟨rq, List.toArray wq, _, _, rfl, F5, N6, N6.isList (.head _), by rw [List.size_toArray, hIQ.length, lenQ]; exact Nat.le_trans hn30 (by decide), ?_, ?_⟩
  · intro i v hv
    intro C h tk m' q1 q2 q3
    have hv' : wq[i]? = some v := by simpa using hv
    have hlt : i < Qs.length := by rw [← hIQ.length]; exact (List.getElem?_eq_some_iff.mp hv').1
    obtain ⟨t, e1⟩ := hIQ.get i Qs[i] (List.getElem?_eq_getElem hlt)
    rw [hv'] at e1
    cases e1
    have hb := bQ Qs[i] (List.getElem_mem hlt)
    refine wpAny_BinOp (wpAny_Name (wpAny_loadName_local rfl rfl q1 q2 ?_) (by decide))
    refine wpAny_Constant_int ?_
    refine div_ii_fits rfl (lt_of_abs_small hb) (fun q => absurd q (by decide)) (fun _ _ => ?_)
    refine ⟨⟨_, _, rfl, fun _ _ e => e⟩, ?_⟩
    intro a ta e
    cases e
    exact ⟨_, congrArg (fun f => Value.float f _) (yq _)⟩
  intro D h2 tk2 ys F2 N2 hp
  have hys : FloatsAre ys (Qs.map yf) := by
    refine FloatsAre.of_paired _ hp (fun i v y hv hF => ?_) (by rw [List.length_map]; exact hIQ.length)
    have hlt : i < Qs.length := by rw [← hIQ.length]; exact (List.getElem?_eq_some_iff.mp hv).1
    obtain ⟨t, e1⟩ := hIQ.get i Qs[i] (List.getElem?_eq_getElem hlt)
    rw [hv] at e1
    cases e1
    obtain ⟨t', rfl⟩ := hF _ _ rfl
    exact ⟨_, t', by rw [List.getElem?_map, List.getElem?_eq_getElem hlt]; rfl, rfl⟩
  have y1 : @Ne Nat D (L + 1) := News.apart_cell N2 (.head _) (by k_mem) d1
  have y2 : @Ne Nat D (L + 1 + 1) := News.apart_cell N2 (.head _) (by k_mem) d2
  have y3 : @Ne Nat D (L + 1 + 1 + 1) := News.apart_cell N2 (.head _) (by k_mem) d3
  have hpl : (List.toArray wp).toList.length ≤ sizeLine := by rw [toList_id, hIP.length, lenP]; exact Nat.le_trans hn30 (by decide)
  have hyl : (List.toArray ys).toList.length ≤ sizeLine := by rw [toList_id, hys.length, List.length_map, lenQ]; exact Nat.le_trans hn30 (by decide)
  clear F5 N6 hp
  k_steps
  refine Hold.mk ?_
  (rename Fr _ _ _ _ => F'); (rename News _ _ _ _ => N')
  obtain ⟨fx, fy, rxy, rxx, ryy, so, CD, hz, htold⟩ := law_math RP RQ hn2 hn30
  cases hfl : flatB P Qs with
  | true =>
    rw [hfl] at hz
    refine wpAny_Try_except ?_
    k_steps
    refine Hold.mk ?_
    refine corr_any (base := s.heap) (envs := [_]) (pushX B F' rfl rfl) (Frag.In.keeps X F'.keep) (Top.keeps T F'.keep) (N'.isList (by k_mem)) (by rw [List.size_toArray, hIP.length, lenP]) (N'.isList (n := ys.length) (by k_mem)) (by rw [List.size_toArray, hys.length, List.length_map, lenQ]) hn2 (by omega)
      (RealsAre.ofInts hIP bP) (RealsAre.ofFloats hys) CD.f1 CD.f2 ?_ ?_ CD.sxy CD.sxx CD.syy CD.sq X T (fun q => by rw [hz] at q; cases q) (fun _ => ?_)
    · intro q; have := congrArg List.length q; simp [lenP] at this; omega
    · intro q; have := congrArg List.length q; simp [lenQ] at this; omega
    intro h3 e' t tk3 tk4 f1 f2 f3 f4
    clear CD hz
    refine caughtC (base := s.heap) (L := L) (C := 59) (bmB := [.type "ValueError", .type "Exception", .type "BaseException", .type "object"]) (newId := "ValueError.__new__") (x := "StatisticsError") (n := "error") (outer := []) rfl rfl rfl rfl rfl F' N' rfl f1 f2 f3 f4 T.g (own_of_in X (topRead_of T) (by k_is) (by k_exc)) (by decide) ?_ rfl rfl (by decide)
    intro h4 news2 tk5 F6 N6 G6 N7
    obtain ⟨oe, ot, ws, nt, g1, g2, g3, g4, g5, g6, g7⟩ := G6
    have N8 : News s.heap L h4 ((e', oe) :: (t, ot) :: _) := fun p hp => by
      rcases List.mem_cons.mp hp with rfl | hp
      · exact N6 _ g1
      · rcases List.mem_cons.mp hp with rfl | hp
        · exact N6 _ g2
        · exact N7 p hp
    clear F' N' f1 f2 f3 f4 N6 N7 g1 g2
    k_steps
    refine Hold.mk ?_
    (rename Fr _ _ _ _ => F'); (rename News _ _ _ _ => N')
    refine eq_kept (N'.isList (by k_mem)) (N'.isList (by k_mem)) (N'.isList (n := wp.length) (by k_mem)) (N'.isList (by k_mem)) (N'.isList (n := ys.length) (by k_mem)) (N'.isList (by k_mem)) (by omega) (by omega) (by units_room) ?_
    k_steps
    refine Hold.mk ?_
    (rename Fr _ _ _ _ => F'); (rename News _ _ _ _ => N')
    have X' := Frag.In.keeps X F'.keep
    have hC := X' 59 (excClassObj _ _ 59 _ _ _ _ _ _ _ _ _ _ _ _ _ _ _) (by k_is)
    have q59 : excIn (Mine.hd.heap_1 w.params) 59 [.type "ValueError", .type "Exception", .type "BaseException", .type "object"] "ValueError.__new__" = true := by k_exc
    refine str_of_own (C := 59) (t := t) (bm := [.type "ValueError", .type "Exception", .type "BaseException", .type "object"]) (m := "at least one of the inputs is constant") (tk := tk3) PySem.F.excStr_ValueError (by kernel_rfl) (by decide) (by units_room) ⟨_, _, _, _, _, _, _, _, _, _, _, _, _, _, _, _, oe, ws, hC, Heap.Ns.of_isNs (isNs_of_in X' (nsOk_of_exc q59 (by k_is))), nsMap_none_of_in X' (nsOk_of_exc q59 (by k_is)) (by k_is), N'.get (by k_mem), g3, g4, g5, ⟨ot, nt, N'.get (by k_mem), g6, g7⟩⟩ ?_
    clear hC X' q59
    k_steps
    (rename Fr _ _ _ _ => F')
    refine wpAny_nameGoes rfl F'.ns rfl ?_
    intro h7 m7 hn7 hs7
    rw [show (("at least one of the inputs is constant" : Str) == ("at least one of the inputs is constant" : Str)) = true from by decide +kernel]
    refine hq _ _ fun b o q => (hs7.2 b fun z => ?_).trans (F'.keep b o q)
    rw [z] at q
    exact absurd (Nat.lt_of_lt_of_le (Heap.lt_size q) F'.above) (Nat.lt_irrefl _)
  | false =>
    rw [hfl] at hz
    refine wpAny_Try_except ?_
    k_steps
    refine Hold.mk ?_
    refine corr_any (base := s.heap) (envs := [_]) (pushX B F' rfl rfl) (Frag.In.keeps X F'.keep) (Top.keeps T F'.keep) (N'.isList (by k_mem)) (by rw [List.size_toArray, hIP.length, lenP]) (N'.isList (n := ys.length) (by k_mem)) (by rw [List.size_toArray, hys.length, List.length_map, lenQ]) hn2 (by omega)
      (RealsAre.ofInts hIP bP) (RealsAre.ofFloats hys) CD.f1 CD.f2 ?_ ?_ CD.sxy CD.sxx CD.syy CD.sq X T (fun _ => ?_) (fun q => by rw [hz] at q; cases q)
    · intro q; have := congrArg List.length q; simp [lenP] at this; omega
    · intro q; have := congrArg List.length q; simp [lenQ] at this; omega
    intro h3 tk3 t3 k3
    have F3 := F'.keeps k3
    have N3 := N'.grown k3
    clear F' N' k3 CD hz
    have htold := htold hfl
    generalize Float64.div (Float64.add (Float64.ofInt 0) (Builtin.Math.tlToFloat rxy)) so = r at htold ⊢
    obtain ⟨sg, mm, ex, up, down, TA⟩ := htold
    rw [hfl] at F3
    k_steps
    refine Hold.mk ?_
    refine wpAny_If ?_
    k_steps
    refine Hold.mk ?_
    (rename Fr _ _ _ _ => F'); (rename News _ _ _ _ => N')
    refine ne_kept (N'.isList (by k_mem)) (N'.isList (by k_mem)) (N'.isList (n := wp.length) (by k_mem)) (N'.isList (by k_mem)) (N'.isList (n := ys.length) (by k_mem)) (N'.isList (by k_mem)) (by omega) (by omega) (by units_room) ?_
    k_steps
    refine Hold.mk ?_
    (rename Fr _ _ _ _ => F'); (rename News _ _ _ _ => N')
    refine call_ratio F' N' TA.dec fun Tt h8 tk8 t1 t2 F8 N8 l8 => ?_
    rw [← TA.hup, ← TA.hdown] at N8
    k_lt l8
    clear F' N'
    k_steps
    refine Hold.mk ?_
    (rename Fr _ _ _ _ => F'); (rename News _ _ _ _ => N')
    refine law_joint_spec (base := s.heap) (envs := [_]) (ns := P) (ms := Qs) (pushX B F' rfl rfl) (Frag.In.keeps X F'.keep) (Top.keeps T F'.keep) (N'.isList (n := wp.length) (by k_mem)) hIP (N'.isList (n := wq.length) (by k_mem)) hIQ (by omega) (by omega) bP bQ ?_
    intro h9 tk9 t9 k9
    have F9 := F'.keeps k9
    have N9 := N'.grown k9
    clear F' N' k9
    change wpAny _ _ (storeName _ _ (.int (jointOf P Qs) t9)) _ _ _
    obtain ⟨J, hJ⟩ : ∃ J, jointOf P Qs = J := ⟨_, rfl⟩
    have jb := jointOf_bound RP RQ hn2 hn30
    rw [hJ] at jb ⊢
    obtain ⟨jb1, jb2⟩ := jb
    have hbJ : Builtin.Int.intBits J ≤ 81 := intBits_le_iff.mpr (by omega)
    have hbU : Builtin.Int.intBits up ≤ 61 := intBits_le_iff.mpr (by have := TA.b1; omega)
    have hbD : Builtin.Int.intBits (down : Int) ≤ 201 := intBits_le_iff.mpr (Nat.lt_of_le_of_lt (show ((down : Int).natAbs) ≤ 2 ^ 200 from TA.b2.2) (Nat.pow_lt_pow_right (by decide) (by decide)))
    k_steps
    refine Hold.mk ?_
    refine wpAny_If ?_
    have hsg : ¬ up * J < 0 := hJ ▸ TA.sign
    k_steps
    refine Hold.mk ?_
    (rename Fr _ _ _ _ => F'); (rename News _ _ _ _ => N')
    refine law_joint_spec (base := s.heap) (envs := [_]) (ns := P) (ms := P) (pushX B F' rfl rfl) (Frag.In.keeps X F'.keep) (Top.keeps T F'.keep) (N'.isList (n := wp.length) (by k_mem)) hIP (N'.isList (n := wp.length) (by k_mem)) hIP (by omega) (by omega) bP bP ?_
    intro h10 tk10 t10 k10
    have F10 := F'.keeps k10
    have N10 := N'.grown k10
    clear F' N' k10
    change wpAny _ _ (binaryOp _ _ (.int (jointOf P P) t10)) _ _ _
    obtain ⟨JP, hJP⟩ : ∃ J, jointOf P P = J := ⟨_, rfl⟩
    have jb10 := jointOf_bound RP RP hn2 hn30
    rw [hJP] at jb10 ⊢
    have hbJP : Builtin.Int.intBits JP ≤ 81 := intBits_le_iff.mpr (by omega)
    k_steps
    refine Hold.mk ?_
    (rename Fr _ _ _ _ => F'); (rename News _ _ _ _ => N')
    refine law_joint_spec (base := s.heap) (envs := [_]) (ns := Qs) (ms := Qs) (pushX B F' rfl rfl) (Frag.In.keeps X F'.keep) (Top.keeps T F'.keep) (N'.isList (n := wq.length) (by k_mem)) hIQ (N'.isList (n := wq.length) (by k_mem)) hIQ (by omega) (by omega) bQ bQ ?_
    intro h11 tk11 t11 k11
    have F11 := F'.keeps k11
    have N11 := N'.grown k11
    clear F' N' k11
    change wpAny _ _ (binaryOp _ _ (.int (jointOf Qs Qs) t11)) _ _ _
    obtain ⟨JQ, hJQ⟩ : ∃ J, jointOf Qs Qs = J := ⟨_, rfl⟩
    have jb11 := jointOf_bound RQ RQ hn2 hn30
    rw [hJQ] at jb11 ⊢
    have hbJQ : Builtin.Int.intBits JQ ≤ 81 := intBits_le_iff.mpr (by omega)
    k_steps
    · (rename J * J * (down : Int) * down < _ => hbad)
      refine absurd hbad ?_
      rw [← hJ, ← hJP, ← hJQ]
      exact TA.near
    k_steps
    refine Hold.mk ?_
    (rename Fr _ _ _ _ => F'); (rename News _ _ _ _ => N')
    refine Assign_zip (h₀ := s.heap) (L := L) (Fv := fun v v₂ hb y ha => ∀ a ta b tb, v = .int a ta → v₂ = .int b tb → ∃ t t1 t2, y = .ref t ∧ hb.get? t = none ∧ ha.get? t = some { cls := .type "tuple", data := .seq #[.int (a - P.getD 0 0) t1, .int (b - Qs.getD 0 0) t2] })
      (F := fun hide i y hp => ∃ t t1 t2, y = .ref t ∧ ¬ hide t ∧ s.heap.get? t = none ∧ hp.get? t = some { cls := .type "tuple", data := .seq #[.int (P.getD i 0 - P.getD 0 0) t1, .int (Qs.getD i 0 - Qs.getD 0 0) t2] })
      rfl rfl (by with_unfolding_all rfl) (by with_unfolding_all rfl) (by with_unfolding_all decide) rfl (by with_unfolding_all decide) (by with_unfolding_all rfl) (by with_unfolding_all rfl) (by decide) rfl rfl ?mon ?_
    case mon =>
      rintro hide i y h h' hk ⟨t, t1, t2, e, hh, hn, hg⟩
      exact ⟨t, t1, t2, e, hh, hn, hk t _ hh hg⟩
    k_steps
    refine Hold.mk ?_
    (rename Fr _ _ _ _ => F''); (rename News _ _ _ _ => N'')
    have hl1' := N''.isList (items := wp.toArray) (n := wp.length) (a := rp) (by k_mem)
    have hl2' := N''.isList (items := wq.toArray) (n := wq.length) (a := rq) (by k_mem)
    have c1 := N''.get (a := L + 1) (o := o1) (by k_mem)
    have c2 := N''.get (a := L + 1 + 1) (o := o2) (by k_mem)
    have hp0 : ∀ i, i < n → ∃ t, wp[i]? = some (.int (P.getD i 0) t) := fun i hi => hIP.get i _ (by rw [List.getD_eq_getElem?_getD, List.getElem?_eq_getElem (by omega)]; rfl)
    have hq0 : ∀ i, i < n → ∃ t, wq[i]? = some (.int (Qs.getD i 0) t) := fun i hi => hIQ.get i _ (by rw [List.getD_eq_getElem?_getD, List.getElem?_eq_getElem (by omega)]; rfl)
    obtain ⟨tp0, hp00⟩ := hp0 0 (by omega)
    obtain ⟨tq0, hq00⟩ := hq0 0 (by omega)
    have lwp : wp.length = n := by rw [hIP.length, lenP]
    have lwq : wq.length = n := by rw [hIQ.length, lenQ]
    refine call_zip_2 hl1' hl2' fun hz8 hz hTI hTO hi1 hi2' hsz hk8 => ?_
    refine ⟨_, _, _, _, _, _, _, _, _, _, _, _, rfl, zipApart_new (by obtain ⟨_, e, _⟩ := hl1'; exact Heap.lt_size e) (by obtain ⟨_, e, _⟩ := hl2'; exact Heap.lt_size e), ⟨hz, hTI, ⟨_, _, hTO⟩, hi1, hi2', hl1'.at fun o e => hk8 _ o e, hl2'.at fun o e => hk8 _ o e⟩, hk8,
      ⟨Heap.get?_none_of_le (by omega), Heap.get?_none_of_le (by omega), Heap.get?_none_of_le (by omega), Heap.get?_none_of_le (by omega)⟩, F'', N'', by rw [List.size_toArray, List.size_toArray, lwp, lwq, Nat.min_self]; exact Nat.le_trans hn30 (by decide), ?_, ?_, ?_⟩
    · intro i v v₂ hv hv₂
      obtain ⟨ta, e1⟩ := hp0 i (by rw [← lwp]; exact (List.getElem?_eq_some_iff.mp (show wp[i]? = some v by simpa using hv)).1)
      obtain ⟨tb, e2⟩ := hq0 i (by rw [← lwq]; exact (List.getElem?_eq_some_iff.mp (show wq[i]? = some v₂ by simpa using hv₂)).1)
      rw [show wp[i]? = some v by simpa using hv] at e1
      rw [show wq[i]? = some v₂ by simpa using hv₂] at e2
      obtain rfl := Option.some.inj e1
      obtain rfl := Option.some.inj e2
      intro C hC tkC mC z1 z2 z3 z4
      refine wpAny_mono (el_way rfl (fun _ => rfl) (fun _ => rfl) (fun _ => by rfl) (fun _ => by rfl) (by rfl) (by rfl) c1 d1 c2 d2 hl1' (by simpa using hp00) hl2' (by simpa using hq00) (by decide) (by decide) (by decide) (by decide) C hC tkC mC z1 z2 z3 z4) (fun y s6 z => ⟨z.1, ?_⟩) fun _ _ z => z
      intro a' ta' b' tb' e3 e4
      cases e3; cases e4
      exact z.2
    · intro i v v₂ hide hb y h6 hv hv₂ hlive hkb hF
      obtain ⟨ta, e1⟩ := hp0 i (by rw [← lwp]; exact (List.getElem?_eq_some_iff.mp (show wp[i]? = some v by simpa using hv)).1)
      obtain ⟨tb, e2⟩ := hq0 i (by rw [← lwq]; exact (List.getElem?_eq_some_iff.mp (show wq[i]? = some v₂ by simpa using hv₂)).1)
      rw [show wp[i]? = some v by simpa using hv] at e1
      rw [show wq[i]? = some v₂ by simpa using hv₂] at e2
      obtain ⟨t, t1, t2, rfl, hn0, hg⟩ := hF _ _ _ _ (Option.some.inj e1) (Option.some.inj e2)
      refine ⟨t, t1, t2, rfl, fun hh => hlive t hh hn0, ?_, hg⟩
      cases q : s.heap.get? t with
      | none => rfl
      | some o => rw [hkb t o (F''.keep t o q)] at hn0; cases hn0
    intro D5 h12 tk12 zs hide hm F12 N12 gD hD5 hhg hkm hkl hpz
    have hzi : ∀ i, i < n → ∃ t o, zs[i]? = some (.ref t) ∧ (h12.get? t = some o ∧ t ≠ L ∧ s.heap.get? t = none ∧ ∀ v, o.data ≠ .cell v) ∧ ∃ t1 t2, o = { cls := .type "tuple", data := .seq #[.int (P.getD i 0 - P.getD 0 0) t1, .int (Qs.getD i 0 - Qs.getD 0 0) t2] } := by
      intro i hi
      obtain ⟨y, e1, t, t1, t2, rfl, hh, hs0, hg⟩ := paired_at hpz i i (by rw [List.size_toArray, List.size_toArray, lwp, lwq, Nat.min_self]; simp [hi])
      have hL : t ≠ L := by
        intro q
        obtain ⟨oL, es, ep, e3, e4, _⟩ := F''.ns
        have e5 := hkm L oL e3
        rw [q, e5] at hg
        cases hg
        cases e4
      exact ⟨t, _, e1, ⟨hkl t _ hL hh hg, hL, hs0, fun v q => nomatch q⟩, t1, t2, rfl⟩
    obtain ⟨tups, hG, hzi⟩ := gather (G := fun p : Addr × Obj => h12.get? p.1 = some p.2 ∧ p.1 ≠ L ∧ s.heap.get? p.1 = none ∧ ∀ v, p.2.data ≠ .cell v) hzi
    have N12 := News.more N12 fun p hp => ⟨(hG p hp).1, (hG p hp).2.1, (hG p hp).2.2.1⟩
    have hGd : ∀ p ∈ tups, ∀ v, p.2.data ≠ .cell v := fun p hp => (hG p hp).2.2.2
    simp only [List.cons_append, List.nil_append] at N12
    clear hG
    clear hz hTI hTO hi1 hi2' hsz hk8 F'' N''
    dsimp only
    have lzs : zs.length = n := by have := hpz.length; simpa [lwp, lwq] using this.symm
    clear hpz hkl hkm hhg hD5 gD
    k_steps
    refine Hold.mk ?_
    (rename Fr _ _ _ _ => F'); (rename News _ _ _ _ => N')
    refine ListComp_filter (h₀ := s.heap) (L := L) rfl (by with_unfolding_all rfl) (by with_unfolding_all decide) rfl (by with_unfolding_all decide) (by with_unfolding_all rfl) (by decide) ?_
    ((first | (k_unfold; (try dsimp only)) | (k_end; wrow_close) | walk1 | (dsimp only; walk1) | (leave1; walk_say "STEP leave1"; try dsimp only)) <;> (try dsimp only))
    (rename Fr _ _ _ _ => F''); (rename News _ _ _ _ => N'')
    refine ⟨D5, List.toArray zs, _, _, fun i => !((P.getD i 0 - P.getD 0 0) == 0 && (Qs.getD i 0 - Qs.getD 0 0) == 0), rfl, F'', N'', N''.isList (by k_mem), by rw [List.size_toArray, lzs]; exact Nat.le_trans hn30 (by decide), ?_, ?_⟩
    · intro i v hv
      have hv' : zs[i]? = some v := by simpa using hv
      obtain ⟨t, _, e1, e2, t1, t2, rfl⟩ := hzi i (by rw [← lzs]; exact (List.getElem?_eq_some_iff.mp hv').1)
      rw [hv'] at e1
      obtain rfl := Option.some.inj e1
      exact test_ne00 rfl (fun _ => rfl) (by decide) (by units_room) (N''.get (by repeat (first | exact e2 | apply List.mem_cons_of_mem)))
    intro D6 h13 tk13 fs F13 N13 gD6 hpf
    clear F'' N''
    obtain ⟨i0, rest, hfil⟩ := first_off lenP lenQ hfl
    rw [show (List.toArray zs).size = n from lzs, hfil] at hpf
    have hi0 : i0 < n ∧ ¬ (P.getD i0 0 - P.getD 0 0 = 0 ∧ Qs.getD i0 0 - Qs.getD 0 0 = 0) := by
      have : i0 ∈ (List.range n).filter (fun i => !((P.getD i 0 - P.getD 0 0) == 0 && (Qs.getD i 0 - Qs.getD 0 0) == 0)) := by rw [hfil]; exact .head _
      rw [List.mem_filter, List.mem_range] at this
      refine ⟨this.1, fun ⟨z1, z2⟩ => ?_⟩
      have h2 := this.2
      simp only [z1, z2] at h2
      exact absurd h2 (by decide)
    obtain ⟨tf, _, hzf, hgf, tf1, tf2, rfl⟩ := hzi i0 hi0.1
    have hfs0 : (List.toArray fs)[(0 : Int).toNat]? = some (.ref tf) := by
      cases hpf with
      | cons h0 ht =>
        have e1 : zs[i0]? = some _ := h0
        rw [hzf] at e1
        cases e1
        rfl
    k_steps
    refine Hold.mk ?_
    (rename Fr _ _ _ _ => F'); (rename News _ _ _ _ => N')
    refine item_list (N'.isList (by k_mem)) (by decide) (by decide) hfs0 ?_
    refine store_cell_keep F' N' (c := L + 1 + 1 + 1) rfl (by k_mem) d3 fun h14 o14 F14 NN d14 => ?_
    have N14 := NN ((D5, listOf (List.toArray zs) zs.length) :: tups) (fun p hp => by
      rcases List.mem_cons.mp hp with rfl | hp
      · exact ⟨by k_mem, fun v q => nomatch q⟩
      · exact ⟨by repeat (first | exact hp | apply List.mem_cons_of_mem), hGd p hp⟩)
    clear F' N' NN
    dsimp only
    k_steps
    refine Hold.mk ?_
    have hPb : ∀ i, Builtin.Int.intBits (P.getD i 0 - P.getD 0 0) ≤ 32 := fun i => intBits_le_iff.mpr (by have b1 := getD_bound bP (by decide) i; have b2 := getD_bound bP (by decide) 0; omega)
    have hQb : ∀ i, Builtin.Int.intBits (Qs.getD i 0 - Qs.getD 0 0) ≤ 32 := fun i => intBits_le_iff.mpr (by have b1 := getD_bound bQ (by decide) i; have b2 := getD_bound bQ (by decide) 0; omega)
    refine Assign_filter (h₀ := s.heap) (L := L) rfl rfl (by with_unfolding_all rfl) (by with_unfolding_all rfl) (by with_unfolding_all decide) rfl (by with_unfolding_all decide) (by with_unfolding_all rfl) (by decide) rfl rfl ?_
    ((first | (k_unfold; (try dsimp only)) | (k_end; wrow_close) | walk1 | (dsimp only; walk1) | (leave1; walk_say "STEP leave1"; try dsimp only)) <;> (try dsimp only))
    (rename Fr _ _ _ _ => F''); (rename News _ _ _ _ => N'')
    refine ⟨D5, List.toArray zs, _, _, fun i => (P.getD i 0 - P.getD 0 0) * (Qs.getD i0 0 - Qs.getD 0 0) != (Qs.getD i 0 - Qs.getD 0 0) * (P.getD i0 0 - P.getD 0 0), rfl, F'', N'', N''.isList (by k_mem), by rw [List.size_toArray, lzs]; exact Nat.le_trans hn30 (by decide), ?_, ?_⟩
    · intro i v hv
      have hv' : zs[i]? = some v := by simpa using hv
      obtain ⟨t, _, e1, e2, t1, t2, rfl⟩ := hzi i (by rw [← lzs]; exact (List.getElem?_eq_some_iff.mp hv').1)
      rw [hv'] at e1
      obtain rfl := Option.some.inj e1
      refine test_cross rfl (fun _ => rfl) (fun _ => rfl) (by with_unfolding_all rfl) (by decide) (by decide) (PySem.IntMulOk.of_le (hPb i) (hQb i0) (by decide)) (PySem.IntMulOk.of_le (hQb i) (hPb i0) (by decide)) (N''.get (by repeat (first | exact e2 | apply List.mem_cons_of_mem))) (N''.get (.head _)) d14 (N''.get (by repeat (first | exact hgf | apply List.mem_cons_of_mem)))
    intro D7 h15 tk15 az F15 N15 hpa
    clear F'' N''
    rw [show (List.toArray zs).size = n from lzs] at hpa
    k_steps
    refine Hold.mk ?_
    (rename Fr _ _ _ _ => F'); (rename News _ _ _ _ => N')
    cases az with
    | cons a0 az =>
      refine RcNeAt.lists_lengths (N'.isList (by k_mem)) (N'.isList (by k_mem)) (by simp) (by units_room) _ _ _ _ ?_
      k_steps
      (rename Fr _ _ _ _ => F'')
      exact hq _ _ F''.keep
    | nil =>
      have hline : ∀ i, i < n → (P.getD i 0 - P.getD 0 0) * (Qs.getD i0 0 - Qs.getD 0 0) = (Qs.getD i 0 - Qs.getD 0 0) * (P.getD i0 0 - P.getD 0 0) := by
        intro i hi
        have hnil := hpa.length
        have := (List.filter_eq_nil_iff.mp (List.eq_nil_of_length_eq_zero hnil)) i (List.mem_range.mpr hi)
        simpa using this
      have hone := TA.online i0 (lenP ▸ hi0.1) hi0.2 (lenP ▸ hline)
      clear hpa
      refine RcNeAt.lists (e := fun _ => true) (N'.isList (by k_mem)) (N'.isList (by k_mem)) rfl (by units_room) (fun j h1 _ => absurd h1 (Nat.not_lt_zero _)) _ _ _ _ ?_
      k_steps
      rw [cmp_abs_one ⟨_, _, _, TA.dec⟩ hone]
      (rename Fr _ _ _ _ => F'')
      exact hq _ _ F''.keep
end Mine
end
section
open PySem PySem.W PySem.Calls PyProof.Rows PySem.Flt
set_option Elab.async false
set_option maxRecDepth 100000
set_option maxHeartbeats 8000000
namespace Mine
local macro_rules | `(tactic| k_steps) => `(tactic| repeat ((first | (k_unfold; (try dsimp only)) | (k_end; wrow_close) | walk1 | (dsimp only; walk1) | (leave1; walk_say "STEP leave1"; try dsimp only)) <;> (try dsimp only)))
local macro_rules | `(tactic| walk_at "subscriptTail Name Slice ref ref") => `(tactic| (k_here; (with_reducible show wpAny _ _ (subscriptTail _ (PySem.Expr.Slice _ _ none _) (Value.ref _) (Value.ref _)) _ _ _); k_dflt (refine' slice_intsX ?F ?N ?l ?p ?q ?i ?m ?c ?_ ?s ?t ?z; (case F => k_asm); (case N => k_asm); (case l => kmk_list); (case p => kmk_part); (case q => kmk_part); (case i => l_ints); (case m => kmk_nums); (case c => kmk_len); (case s => with_unfolding_all rfl); (case t => kmk_pure); (case z => kmk_size)); intro D' ws' h' F' N' l1 hI' hC' hL'; (try simp only [Int.reduceNeg, Int.neg_neg, Int.reduceToNat] at hI' hC' hL'); (try k_lt l1); (try k_sweep)))
local macro_rules | `(tactic| walk_at "binaryOp FloorDiv int int") => `(tactic| (k_here; refine floordiv_two ?_))
local macro_rules | `(tactic| walk_at "execs cons Assign cons") => `(tactic| (show wpAny _ _ (execs (Stmt.Assign _ (PySem.Expr.BoolOp _ _ _) _ :: _) _) _ _ _; refine Hold.out ?_))
local macro_rules | `(tactic| walk_at "exec Assign cons ListComp") => `(tactic| refine Hold.out ?_)
local macro_rules | `(tactic| walk_at "call ref") => `(tactic| refine Hold.out ?_)
local macro_rules | `(tactic| walk_at "exec If") => `(tactic| refine Hold.out ?_)
theorem half_facts {m : Nat} (h1 : 4 ≤ m) (h2 : m ≤ 61) : 2 ≤ m / 2 ∧ m / 2 ≤ 30 := by omega
theorem take_one {l : List Int} (h1 : 4 ≤ l.length) (h2 : l.length ≤ 61) : (List.take ((l.length / 2 : Nat) : Int).toNat l).length = l.length / 2 := by rw [List.length_take]; omega
theorem take_two {l : List Int} (h1 : 4 ≤ l.length) (h2 : l.length ≤ 61) : (List.take (min (2 * ((l.length / 2 : Nat) : Int)).toNat l.length - ((l.length / 2 : Nat) : Int).toNat) (List.drop ((l.length / 2 : Nat) : Int).toNat l)).length = l.length / 2 := by rw [List.length_take, List.length_drop]; omega
theorem half_room {m k : Nat} (h1 : 4 ≤ m) (h2 : m ≤ 61) (e : k = m / 2) : 1 ≤ k ∧ k ≤ 63 := by omega
theorem law_spec {w : World} {p : Program} {loose : List Str} {mean : ExcName → Option Value} {mg mb : Str → Option Value} {s : Shared} {Q E : Value → Shared → Prop} {l : Addr} {vs : List Value} {ns : List Int}
  (X : (Mine.hd.heap_1 w.params).In s.heap) (T : Top p loose mean mg mb s.heap)
  (hl : s.heap.IsList l vs.toArray) (hi : IntsAre vs ns) (hn : ns.length ≤ 63)
  (h : ∀ h' tk', (∀ b o, s.heap.get? b = some o → h'.get? b = some o) → Q (.bool true) {s with heap := h', toks := tk'}) :
  wpAny (model PySem.Challenge.rw_kp0009_05.row.prog w) callerA (call (.ref 306) [.ref l]) Q E s := by
  revert X; w_top off; k_fill; intro X
  have B := below_caller s.heap
  refine wpAny_call ?_
  refine enterC X T.nolimit (by k_is) (by k_is) (by k_room) (by exact BindsTo.of_eq rfl) rfl (by decide +kernel) ?_ rfl rfl rfl
  intro L' h₁ tk cells F N Y
  k_cells Y
  refine wpAny_mono (E := fun _ _ => False) ?_ (fun _ _ h => h) (fun _ _ h => h.elim)
  dsimp only
  k_steps
  refine Hold.mk ?_
  (rename Fr _ _ _ _ => F'); (rename News _ _ _ _ => N')
  refine join_list (s := s) "numbers" (numsOf5 ns) F' N' ?_ (fun h' tk D ws F2 N2 hI2 => ?_)
  · refine wpAny_If ?_
    k_steps
    · (rename Fr _ _ _ _ => F3); (rename News _ _ _ _ => N3); (rename IntsAre _ _ => hI3)
      exact ⟨_, _, _, _, rfl, F3, fun p hp => N3 p (by rcases List.mem_cons.mp hp with e | e; exact e ▸ .head _; exact .tail _ (.tail _ e)), by unfold numsOf5; rw [if_pos (by omega)]; exact hI3⟩
    · (rename IntsAre _ _ => hI3)
      k_steps
      refine ⟨_, _, _, _, rfl, Fr_same F' (by rfl), fun p hp => N' p (by rcases List.mem_cons.mp hp with e | e; exact e ▸ .head _; exact e), by unfold numsOf5; rw [if_neg (by omega)]; exact hI3⟩
  have q1 : @Ne Nat D (L' + 1) := News.apart_cell N2 (.head _) (by k_mem) (by assumption)
  have q2 : @Ne Nat D (L' + 1 + 1) := News.apart_cell N2 (.head _) (by k_mem) (by assumption)
  have q3 : @Ne Nat D (L' + 1 + 1 + 1) := News.apart_cell N2 (.head _) (by k_mem) (by assumption)
  clear F' N'
  have hnl : 4 ≤ (numsOf5 ns).length ∧ (numsOf5 ns).length ≤ 61 := numsOf5_length hn
  obtain ⟨hnl1, hnl2⟩ := hnl
  dsimp only
  k_steps
  refine Hold.mk ?_
  (rename Fr _ _ _ _ => F'); (rename News _ _ _ _ => N'); (rename IntsAre _ (List.take _ _) => hIp)
  refine law_row_spec (base := s.heap) (envs := [_]) (pushX B F' rfl rfl) (Frag.In.keeps X F'.keep) (Top.keeps T F'.keep) (N'.isList (.head _)) hIp (half_room hnl1 hnl2 (take_one hnl1 hnl2)).1 (half_room hnl1 hnl2 (take_one hnl1 hnl2)).2 ?_
  intro h' tk' rp wp op kp gp np hop hIP
  have Fp := F'.keeps kp
  have Np := News.new F' (N'.grown kp) gp np
  have ap := News.apart N' np
  simp only [List.mem_cons, List.not_mem_nil, or_false, forall_eq_or_imp, forall_eq] at ap
  clear F' N' kp gp np
  dsimp only
  k_steps
  refine Hold.mk ?_
  (rename Fr _ _ _ _ => F'); (rename News _ _ _ _ => N'); (rename IntsAre _ (List.take _ (List.drop _ _)) => hIq)
  refine law_row_spec (base := s.heap) (envs := [_]) (pushX B F' rfl rfl) (Frag.In.keeps X F'.keep) (Top.keeps T F'.keep) (N'.isList (.head _)) hIq (half_room hnl1 hnl2 (take_two hnl1 hnl2)).1 (half_room hnl1 hnl2 (take_two hnl1 hnl2)).2 ?_
  intro h' tk' rq wq oq kq gq nq hoq hIQ
  have Fq := F'.keeps kq
  have Nq := News.new F' (N'.grown kq) gq nq
  have aq := News.apart N' nq
  simp only [List.mem_cons, List.not_mem_nil, or_false, forall_eq_or_imp, forall_eq] at aq
  clear F' N' kq gq nq
  dsimp only
  have ncells : (@Ne Nat rp rq) ∧ (@Ne Nat rp (L' + 1)) ∧ (@Ne Nat rp (L' + 1 + 1)) ∧ (@Ne Nat rp (L' + 1 + 1 + 1)) ∧ (@Ne Nat rq (L' + 1)) ∧ (@Ne Nat rq (L' + 1 + 1)) ∧ (@Ne Nat rq (L' + 1 + 1 + 1)) := by
    refine ⟨?_, ?_, ?_, ?_, ?_, ?_, ?_⟩ <;> first | exact ap.1 | exact Ne.symm ap.1 | exact ap | exact Ne.symm ap | exact ap.2.1 | exact Ne.symm ap.2.1 | exact ap.2 | exact Ne.symm ap.2 | exact ap.2.2.1 | exact Ne.symm ap.2.2.1 | exact ap.2.2 | exact Ne.symm ap.2.2 | exact ap.2.2.2.1 | exact Ne.symm ap.2.2.2.1 | exact ap.2.2.2 | exact Ne.symm ap.2.2.2 | exact ap.2.2.2.2.1 | exact Ne.symm ap.2.2.2.2.1 | exact ap.2.2.2.2 | exact Ne.symm ap.2.2.2.2 | exact ap.2.2.2.2.2.1 | exact Ne.symm ap.2.2.2.2.2.1 | exact ap.2.2.2.2.2 | exact Ne.symm ap.2.2.2.2.2 | exact ap.2.2.2.2.2.2.1 | exact Ne.symm ap.2.2.2.2.2.2.1 | exact ap.2.2.2.2.2.2 | exact Ne.symm ap.2.2.2.2.2.2 | exact ap.2.2.2.2.2.2.2.1 | exact Ne.symm ap.2.2.2.2.2.2.2.1 | exact ap.2.2.2.2.2.2.2 | exact Ne.symm ap.2.2.2.2.2.2.2 | exact ap.2.2.2.2.2.2.2.2.1 | exact Ne.symm ap.2.2.2.2.2.2.2.2.1 | exact ap.2.2.2.2.2.2.2.2 | exact Ne.symm ap.2.2.2.2.2.2.2.2 | exact ap.2.2.2.2.2.2.2.2.2.1 | exact Ne.symm ap.2.2.2.2.2.2.2.2.2.1 | exact ap.2.2.2.2.2.2.2.2.2 | exact Ne.symm ap.2.2.2.2.2.2.2.2.2 | exact ap.2.2.2.2.2.2.2.2.2.2.1 | exact Ne.symm ap.2.2.2.2.2.2.2.2.2.2.1 | exact ap.2.2.2.2.2.2.2.2.2.2 | exact Ne.symm ap.2.2.2.2.2.2.2.2.2.2 | exact ap.2.2.2.2.2.2.2.2.2.2.2.1 | exact Ne.symm ap.2.2.2.2.2.2.2.2.2.2.2.1 | exact ap.2.2.2.2.2.2.2.2.2.2.2 | exact Ne.symm ap.2.2.2.2.2.2.2.2.2.2.2 | exact aq.1 | exact Ne.symm aq.1 | exact aq | exact Ne.symm aq | exact aq.2.1 | exact Ne.symm aq.2.1 | exact aq.2 | exact Ne.symm aq.2 | exact aq.2.2.1 | exact Ne.symm aq.2.2.1 | exact aq.2.2 | exact Ne.symm aq.2.2 | exact aq.2.2.2.1 | exact Ne.symm aq.2.2.2.1 | exact aq.2.2.2 | exact Ne.symm aq.2.2.2 | exact aq.2.2.2.2.1 | exact Ne.symm aq.2.2.2.2.1 | exact aq.2.2.2.2 | exact Ne.symm aq.2.2.2.2 | exact aq.2.2.2.2.2.1 | exact Ne.symm aq.2.2.2.2.2.1 | exact aq.2.2.2.2.2 | exact Ne.symm aq.2.2.2.2.2 | exact aq.2.2.2.2.2.2.1 | exact Ne.symm aq.2.2.2.2.2.2.1 | exact aq.2.2.2.2.2.2 | exact Ne.symm aq.2.2.2.2.2.2 | exact aq.2.2.2.2.2.2.2.1 | exact Ne.symm aq.2.2.2.2.2.2.2.1 | exact aq.2.2.2.2.2.2.2 | exact Ne.symm aq.2.2.2.2.2.2.2 | exact aq.2.2.2.2.2.2.2.2.1 | exact Ne.symm aq.2.2.2.2.2.2.2.2.1 | exact aq.2.2.2.2.2.2.2.2 | exact Ne.symm aq.2.2.2.2.2.2.2.2 | exact aq.2.2.2.2.2.2.2.2.2.1 | exact Ne.symm aq.2.2.2.2.2.2.2.2.2.1 | exact aq.2.2.2.2.2.2.2.2.2 | exact Ne.symm aq.2.2.2.2.2.2.2.2.2 | exact aq.2.2.2.2.2.2.2.2.2.2.1 | exact Ne.symm aq.2.2.2.2.2.2.2.2.2.2.1 | exact aq.2.2.2.2.2.2.2.2.2.2 | exact Ne.symm aq.2.2.2.2.2.2.2.2.2.2 | exact aq.2.2.2.2.2.2.2.2.2.2.2.1 | exact Ne.symm aq.2.2.2.2.2.2.2.2.2.2.2.1 | exact aq.2.2.2.2.2.2.2.2.2.2.2 | exact Ne.symm aq.2.2.2.2.2.2.2.2.2.2.2
  k_steps
  refine Hold.mk ?_
  (rename Fr _ _ _ _ => F4); (rename News _ _ _ _ => N4)
  have N5 := News.cut9 N4
  clear N4
  obtain ⟨n, hnn⟩ : ∃ n, n = (numsOf5 ns).length / 2 := ⟨_, rfl⟩
  have hn2 : 2 ≤ n := hnn ▸ (half_facts hnl1 hnl2).1
  have hn30 : n ≤ 30 := hnn ▸ (half_facts hnl1 hnl2).2
  have e1 := (take_one hnl1 hnl2).trans hnn.symm
  have e2 := (take_two hnl1 hnl2).trans hnn.symm
  obtain ⟨P, hP⟩ : ∃ P, Row5 n P ∧ IntsAre wp P := ⟨_, ⟨_, _, _, e1, e1 ▸ hop, rfl⟩, hIP⟩
  obtain ⟨Qs, hQs⟩ : ∃ P, Row5 n P ∧ IntsAre wq P := ⟨_, ⟨_, _, _, e2, e2 ▸ hoq, rfl⟩, hIQ⟩
  obtain ⟨RP, hIP'⟩ := hP
  obtain ⟨RQ, hIQ'⟩ := hQs
  have lenP := RP.length
  have lenQ := RQ.length
  clear e1 e2 hIP hIQ aq ap hop hoq hnn hnl1 hnl2 q1 q2 q3 hIp hIq
  have hk := id (α := (Mine.hd.heap_1 w.params).lookup 306 = some ⟨_, _, .func (fnOf _ _ _ _ _ _ _ _ _ _ _ _), _⟩) (by k_is)
  exact law_tail X T hk F4 N5 ncells (by assumption) (by assumption) (by assumption) hn2 hn30 RP hIP' RQ hIQ' lenP lenQ h
end Mine
end
section
open PySem PySem.W PySem.Calls PyProof.Rows PySem.Flt
set_option Elab.async false
set_option maxRecDepth 100000
set_option maxHeartbeats 8000000
namespace Mine
theorem law_holds : PySem.Challenge.rw_kp0009_05.Holds := Mine.hd (by
  w_top off; k_fill
  intro w s₀ s₁ mg mb G Y fa o pm cd doc dV kV ho hd hcd hD hmg hg args vals as hpre hlay hrd hwl hlo
  have KX := kIn_of Y
  refine Ground.open G ?_
  intro T B D TE TW
  have hfa : fa = 306 := by
    have e := mg_of (n := "law") (v := .ref 306) KX T.g (by k_is)
    rw [show mg "law" = some (.ref fa) from hmg] at e
    cases e
    rfl
  subst hfa
  clear B D TE TW
  wrow_args hpre hlay hrd hwl hlo
  (rename IntsAre _ _ => hI)
  (rename Heap.IsList _ _ _ => hL)
  refine law_spec KX T hL hI (by omega) (fun h' tk' hk => ?_)
  refine GoodW.toG ⟨.inl ⟨.bool true, _, [], rfl, raisesW_false ?_, ReadsW.bool _, ?_, unshared_nil⟩, hk, rfl, hg⟩
  · wrow_none_raised
  · wrow_post)
end Mine
end
set_option maxRecDepth 100000 in
theorem PySem.Challenge.cw_kp0009_05_holds : PySem.Challenge.rw_kp0009_05.Holds := by
  exact Mine.law_holds
