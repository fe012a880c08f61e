import PyProof.Rows.All
import Wide.All
import OpenK.AllK
import Wide.FinOn
import Lean
import PySem.Challenge.RW_ph0154_02
set_option maxRecDepth 100000
set_option Elab.async false
set_option linter.unusedVariables false
set_option linter.unusedSectionVars false
section -- RQ
set_option backward.match.sparseCases false
open Lean Meta Elab Tactic
set_option compiler.extract_closed false
set_option compiler.small 0
set_option compiler.reuse false
set_option backward.match.sparseCases false
set_option genSizeOf false
set_option genInjectivity false
namespace Mine
def fx {α β : Type} (d : α → β) (f : (α → β) → α → β) : Nat → α → β
  | 0 => d
  | n + 1 => f (fx d f n)
def sums : String := " Eq Ne LE.le LT.lt GE.ge GT.gt Not And Or Iff HAdd.hAdd HSub.hSub HMul.hMul HDiv.hDiv HMod.hMod Neg.neg Nat.cast Int.toNat Nat.succ OfNat.ofNat HPow.hPow Min.min Max.max False "
def numT (t : Lean.Expr) : Bool := t.isConstOf ``Nat || t.isConstOf ``Int
def leafF (r : IO.Ref (Array Lean.Expr)) (e : Lean.Expr) : MetaM Bool := do
  if e.isFVar || e.isRawNatLit || e.hasLooseBVars then return false
  if e.isForall then return true
  let f := e.getAppFn
  if f.isConst && (sums.splitOn s!" {f.constName!} ").length == 2 then
    return !(e.isAppOfArity ``Eq 3 && !numT e.appFn!.appFn!.appArg!)
  if numT (← instantiateMVars (← inferType e)) then r.modify (·.push e)
  return false
def omGo (g : MVarId) (pf : Lean.Expr) : TacticM Unit := g.withContext do
  let us ← (collectFVars {} pf).fvarIds.filterM fun x => do return (← isProp (← x.getType)) && !(← x.isLetVar)
  let gt ← instantiateMVars (← g.getType)
  let ts ← us.mapM fun u => do instantiateMVars (← u.getType)
  let fs := (us.filter fun u => !(ts.push gt).any (·.containsFVar u)).map Lean.Expr.fvar
  let ty ← instantiateMVars (← mkForallFVars fs gt)
  let m ← mkFreshExprSyntheticOpaqueMVar ty
  g.assign (mkAppN m fs)
  let r ← IO.mkRef #[]
  (forEachExpr' ty (leafF r) : MetaM Unit)
  let (_, g) ← m.mvarId!.generalize ((← r.get).map fun l => { expr := l })
  let (_, g) ← (← g.cleanup (indirectProps := false)).intros
  setGoals [g]
  evalTactic (← `(tactic| first | lia | omega))
def om : TacticM Unit := do
  let g ← getMainGoal
  let rest := (← getGoals).drop 1
  let st ← saveState
  evalTactic (← `(tactic| omega))
  let pf ← instantiateMVars (.mvar g)
  let st2 ← saveState
  st.restore
  try omGo g pf catch _ => st2.restore
  setGoals rest
structure SqS where
  lctx : LocalContext
  idx : Std.HashMap FVarId Nat := {}
  opened : Std.HashMap Expr FVarId := {}
  uses : Std.HashMap Expr (List Nat) := {}
  order : Array Expr := #[]
  hoist : Std.HashMap FVarId (List Expr) := {}
  cache : Std.HashMap Expr Expr := {}
  cnt : Std.HashMap Expr Nat := {}
abbrev SqM := StateRefT SqS MetaM
def sqTy (e : Expr) : Expr := if e.isLet then e.letType! else e.bindingDomain!
def sqBd (e : Expr) : Expr := if e.isLet then e.letBody! else e.bindingBody!
def sqAll (f : Expr → SqM Expr) (as : Array Expr) : SqM (Array Expr) := as.mapM f
def sqCnt (k : Expr) : SqM Nat := return (← get).cnt[k]?.getD 0
def sqPut (k v : Expr) : SqM Unit := modify fun s => { s with cache := s.cache.insert k v }
def sqVisitF (go : Expr → Nat → SqM Expr) (e : Expr) (lvl : Nat) : SqM Expr := do
  if e.isFVar || e.isLambda then modify fun s => { s with cnt := s.cnt.insert e (s.cnt[e]?.getD 0 + 1) }
  if !e.hasFVar || e.isFVar then return e
  let ls := (← get).uses[e]?.getD []
  if ls.length < 8 && !ls.contains lvl then modify fun s => { s with uses := s.uses.insert e (lvl :: ls) }
  if !ls.isEmpty then return e
  if e.isApp then
    discard <| sqAll (go · lvl) (e.getAppArgs.push e.getAppFn)
  else if e.isProj then
    discard <| go e.projExpr! lvl
  else
    discard <| sqAll (go · lvl) (if e.isLet then #[sqTy e, e.letValue!] else #[sqTy e])
    let x ← mkFreshFVarId
    modify fun s => { s with
      lctx := if e.isLet then s.lctx.mkLetDecl x `x (sqTy e) e.letValue! else s.lctx.mkLocalDecl x `x (sqTy e)
      idx := s.idx.insert x (lvl + 1)
      opened := s.opened.insert e x }
    discard <| go ((sqBd e).instantiate1 (.fvar x)) (lvl + 1)
  modify fun s => { s with order := s.order.push e }
  return e
def sqAt (s : SqS) (e : Expr) (h : Std.HashMap FVarId (List Expr)) : Std.HashMap FVarId (List Expr) :=
  let x := (collectFVars {} e).fvarIds.foldl (fun b x => if s.idx[x]?.getD 0 > s.idx[b]?.getD 0 then x else b) ⟨`x⟩
  if ((s.uses[e]?.getD []).length - 1) * (if e.isApp then e.getAppNumArgs else 2) ≥ 4 then h.insert x (e :: h[x]?.getD []) else h
def sqChoose (s : SqS) : SqS :=
  { s with hoist := s.order.foldr (sqAt s) {} }
def sqBody (go : Expr → SqM Expr) (x : FVarId) (b : Expr) : SqM Expr := do
  ((← get).hoist[x]?.getD []).foldr (fun t k => do
    let ty ← go (← withLCtx (← get).lctx #[] (inferType t))
    let v ← go t
    let y := Expr.fvar (← mkFreshFVarId)
    sqPut t y
    let r ← k
    return .letE `x ty v (r.abstract #[y]) false) (go (b.instantiate1 (.fvar x)))
def sqIn (go : Expr → SqM Expr) (e : Expr) : SqM Expr := do
  if e.isApp then
    let h := e.getAppFn
    let as ← sqAll go e.getAppArgs
    if let some x := (← get).opened[h]? then
      if h.isLambda && (← sqCnt (.fvar x)) ≤ 1 && (← sqCnt h) == 1 then
        sqPut (.fvar x) as[0]!
        return mkAppN (← sqBody go x h.bindingBody!) (as.extract 1 as.size)
    return mkAppN (← go h) as
  if e.isProj then return e.updateProj! (← go e.projExpr!)
  let t ← go (sqTy e)
  let v ← if e.isLet then go e.letValue! else pure t
  let some x := (← get).opened[e]? | return e
  let k ← sqCnt (.fvar x)
  if e.isLet && (k == 0 || e.letNondep! && k == 1) then
    sqPut (.fvar x) v
    return ← sqBody go x (sqBd e)
  let r := (← sqBody go x (sqBd e)).abstract #[.fvar x]
  return if e.isLet then .letE `x t v r e.letNondep! else if e.isLambda then .lam `x t r .default else .forallE `x t r .default
def sqBuildF (go : Expr → SqM Expr) (e : Expr) : SqM Expr := do
  if e.isMData then return ← go e.mdataExpr!
  if let some y := (← get).cache[e]? then return y
  if !e.hasFVar || e.isFVar then return e
  let r ← sqIn go e
  sqPut e r
  return r
def sqOne (e : Expr) : Expr :=
  let as := e.getAppArgs
  let is (n : Name) (k : Nat) := e.isAppOfArity n k
  let us := e.getAppFn.constLevels!
  let up (e : Expr) := e.liftLooseBVars 0 1
  if is ``id 2 then as[1]!
  else if is ``Eq.mpr 4 then
    let h := if as[2]!.isAppOfArity ``id 2 then as[2]!.appArg! else as[2]!
    let bs := h.getAppArgs
    if h.isAppOfArity ``congrArg 6 && bs[1]!.isSort && bs[4]!.isLambda then
      let vs := h.getAppFn.constLevels!
      mkAppN (.const ``Eq.ndrec [us[0]!, vs[0]!]) #[bs[0]!, bs[3]!, bs[4]!, as[3]!, bs[2]!, mkApp4 (.const ``Eq.symm [vs[0]!]) bs[0]! bs[2]! bs[3]! bs[5]!]
    else e
  else if is ``Exists.casesOn 5 || is ``And.casesOn 5 || is ``Or.casesOn 6 then
    if !as[2]!.isLambda || as[2]!.bindingBody!.hasLooseBVar 0 then e else
    let G := as[2]!.bindingBody!.lowerLooseBVars 1 1
    if is ``And.casesOn 5 then mkApp5 (.const ``And.elim us) as[0]! as[1]! G as[4]! as[3]!
    else if is ``Or.casesOn 6 then mkAppN (.const ``Or.elim []) #[as[0]!, as[1]!, G, as[3]!, as[4]!, as[5]!]
    else
      let m := as[4]!
      if m.isLambda && m.bindingBody!.isLambda && as[1]!.isLambda && (as[1]!.bindingBody!.isAppOf ``Exists || as[1]!.bindingBody!.isAppOf ``And) then
        .letE `x (.forallE `x m.bindingDomain! (.sort .zero) .default) as[1]! (mkApp5 (.const ``Exists.elim us) (up as[0]!) (.bvar 0) (up G) (up as[3]!) (.lam `x (up m.bindingDomain!) (.lam `x (.app (.bvar 1) (.bvar 0)) (m.bindingBody!.bindingBody!.liftLooseBVars 2 1) .default) .default)) false
      else mkApp5 (.const ``Exists.elim us) as[0]! as[1]! G as[3]! m
  else e
def sqPre (e : Expr) : MetaM TransformStep := do
  if e.isMData then return .visit e.mdataExpr!
  if !(e.isApp && e.getAppFn.isConst) then return .continue
  let r := sqOne e
  return if r == e then .continue else .visit r
def squeeze (e : Expr) : MetaM Expr := do
  let e ← Core.transform e (pre := sqPre)
  (do
    discard <| fx (fun e _ => pure e) sqVisitF 100000 e 0
    modify sqChoose
    sqBody (fx pure sqBuildF 100000) ⟨`x⟩ e : SqM Expr).run' { lctx := ← getLCtx }
def sq0 : TacticM Unit := do
  let g ← getMainGoal
  g.withContext do
    let ty ← g.getType
    let a ← mkFreshExprSyntheticOpaqueMVar ty
    let b ← mkFreshExprMVar ty .syntheticOpaque `sq1
    b.mvarId!.assign (mkApp2 (mkConst ``And.intro) a (.mvar g))
    replaceMainGoal [a.mvarId!]
def sq : TacticM Unit := do
  let some b := (← getMCtx).findUserName? `sq1 | return
  let e ← instantiateMVars (.mvar b)
  let pf := e.appFn!.appArg!
  let g := e.appArg!.mvarId!
  g.withContext do
    let r ← squeeze pf
    g.assign (if (← r.numObjs) < (← pf.numObjs) then r else pf)
end Mine
end -- RQ
section -- B1
set_option backward.match.sparseCases false
open PySem PySem.W PySem.W.X PySem.Calls PyProof.Rows
namespace Mine
noncomputable abbrev callerC : PySem.Ctx := ⟨.builtin "claim.caller" {}, none, none, [], none⟩
noncomputable def At1 {α : Type} (M : Model) (t : Sem α) (Q : α → Shared → Prop) (E : PySem.Value → Shared → Prop) (s : Shared) : Prop :=
  ∀ p, Sem.wp M callerC t (fun a _ s' => Q a s') (fun e _ s' => E e s') p s
section
variable {α β : Type} {M : Model} {E E' : PySem.Value → Shared → Prop} {s : Shared}
theorem at1_of {t : Sem α} {Q : α → Shared → Prop} (h : wpAny M callerA t Q E s) : At1 M t Q E s := fun p => h callerC p caller_in
theorem at1_mono {t : Sem α} {Q Q' : α → Shared → Prop} (h : At1 M t Q E s) (hQ : ∀ a s, Q a s → Q' a s) (hE : ∀ e s, E e s → E' e s) : At1 M t Q' E' s :=
  fun p => Sem.wp_mono M callerC t (fun a _ s => hQ a s) (fun e _ s => hE e s) p s (h p)
theorem at1_bind {m : Sem α} {f : α → Sem β} {Q : β → Shared → Prop} (h : At1 M m (fun a s' => At1 M (f a) Q E s') E s) : At1 M (m >>= f) Q E s := fun p => by
  rw [Sem.wp_bind']
  exact Sem.wp_mono M callerC m (fun a p' s' h' => h' p') (fun _ _ _ h' => h') p s (h p)
end
theorem thread1 {prog : Program} {w : World} {t : Sem PySem.Fin} {s : Shared} {R : Result → Shared → Prop} (hs : s.asleep)
    (h : At1 (model prog w) t (fun fin s' => ∃ f, fin = .done f ∧ (R (.ok f) s' ∧ leftWithCleanup s'.gens = false)) (fun e s' => R (.error e) s' ∧ leftWithCleanup s'.gens = false) s) :
    ∃ n r s' s'', schedN (denote table) prog w n (.single s ⟨t, .builtin "claim.caller" {}, default, []⟩) = .halted (outcomeOf r) s' ∧
      runN (denote table) prog w n s ⟨t, .builtin "claim.caller" {}, default, []⟩ = .halted (outcomeOf r) s' ∧ s'.forget = s''.forget ∧ R r s'' := by
  run_tac sq0
  have h0 : Sem.wp (model prog w) callerC t (Sem.finPost (model prog w) callerC fun r s' => R r s' ∧ leftWithCleanup s'.gens = false) (fun e _ s' => R (.error e) s' ∧ leftWithCleanup s'.gens = false) default s :=
    Sem.wp_mono (model prog w) callerC t (fun fin p' s' h' => by obtain ⟨f, rfl, hf⟩ := h'; exact hf) (fun _ _ _ h' => h') default s (h default)
  obtain ⟨n, r, s1, s2, e1, e2, e3, e4⟩ := wp_halts_full (M := model prog w) (R := R) hs h0
  exact ⟨n, r, s2, s1, e1, e2, e3, e4⟩
  run_tac sq
theorem from1 {c : ClaimW} {tree : List PySem.Value → Sem PySem.Fin} {w : World} {s : Shared} {free : Addr → Prop} {gens : Prop} {kept : Heap → Prop} (hz : s.asleep) (hg : s.gens = #[])
    (H : ∀ args, c.pre args = true → WData.layableAll args = true → ∀ ord : List DictEntry → List DictEntry, (∀ l, (ord l).Perm l) →
      ∃ vs s₁, layAllW c.records (classAt s.heap) w.params ord args s = some (vs, s₁) ∧
        At1 (model c.prog w) (tree vs) (fun fin s' => ∃ f, fin = .done f ∧ (c.Ends s args vs s₁ (.ok f) s' ∧ s'.os = s.os ∧ AllBare s'.gens ∧ kept s'.heap))
          (fun e s' => c.Ends s args vs s₁ (.error e) s' ∧ s'.os = s.os ∧ AllBare s'.gens ∧ kept s'.heap) s₁) :
    c.CallFrom (fun vs => ⟨tree vs, .builtin "claim.caller" {}, default, []⟩) w free gens kept s := by
  run_tac sq0
  intro args hp hl ord ho
  obtain ⟨vs, s₁, e, h⟩ := H args hp hl ord ho
  have rest := layAllW_rest _ _ _ e
  have h' : At1 (model c.prog w) (tree vs) (fun fin s' => ∃ f, fin = .done f ∧ ((c.Ends s args vs s₁ (.ok f) s' ∧ s'.os = s.os ∧ kept s'.heap) ∧ leftWithCleanup s'.gens = false))
      (fun e s' => (c.Ends s args vs s₁ (.error e) s' ∧ s'.os = s.os ∧ kept s'.heap) ∧ leftWithCleanup s'.gens = false) s₁ :=
    at1_mono h (fun fin s' ⟨f, x1, x2, x3, x4, x5⟩ => ⟨f, x1, ⟨x2, x3, x5⟩, leftWithCleanup_false_of_bare x4⟩) (fun _ s' ⟨x2, x3, x4, x5⟩ => ⟨⟨x2, x3, x5⟩, leftWithCleanup_false_of_bare x4⟩)
  obtain ⟨k, r, s2, s3, hsch, hrun, hfo, hE, hos, hk⟩ := thread1 (R := fun r s' => c.Ends s args vs s₁ r s' ∧ s'.os = s.os ∧ kept s'.heap) (Shared.asleep_of_life rest.2.2.2 hz) h'
  obtain ⟨eh, _, _, eo, _⟩ := Shared.forget_eq hfo
  have hE := hE.congr eh
  rw [← eh] at hk
  rw [← eo] at hos
  have life : s2.heap.life = s.heap.life := (runN_life _ _ _ hrun).trans rest.2.2.2
  refine ⟨vs, s₁, e, k, _, s2, hsch, ?_, (fun _ i x hx => by rw [hg] at hx; simp at hx), hk, by rw [life], Shared.rest_eq hos⟩
  rcases hE with ⟨v, rfl, a1, a2, a3, a4, a5⟩ | ⟨x, ob, cl, rfl, a1, a2, a3, a4, a5⟩
  · exact .inl ⟨v, rfl, a1, a2, a3, fun b o y _ => a4 b o y, a5⟩
  · exact .inr ⟨x, ob, cl, rfl, a1, a2, a3, a4, fun b o y _ => a5 b o y⟩
  run_tac sq
noncomputable abbrev Walk1 (q : Program) (loose : List Str) (XP : (Str → Option PySem.Value) → Heap → Prop) {α : Type} (Yf : Shared → α) (Ya : World → α) (r : RowW) (d : DefRec) (kwd : List (Str × Expr)) : Prop :=
  ∀ (w : World) (s₀ s₁ : Shared) (mg mb : Str → Option PySem.Value), Ground q loose r.records XP w s₀ mg mb s₁.heap → Yf s₀ = Ya w → ∀ (a : Addr) (o : Obj) (pm cd doc dV kV : PySem.Value), s₁.heap.get? a = some o →
    o.data = .func { docDef d.name d.params d.body d.scope pm cd doc with defaults := dV, kwdefaults := kV } → s₁.heap.CodeRec cd d.name → Dflts mg s₁.heap d.params kwd dV kV → mg d.name = some (.ref a) → s₁.gens = #[] →
    ∀ (args : List WData) (vals : List PySem.Value) (as : List Addr), Laid r.records w s₀ s₁ args vals as → r.claim.pre args = true → WData.layableAll args = true → ReadsAllW r.records (classAt s₀.heap) s₁.heap vals args as → WellAll w.params s₁.heap vals args → (∀ a ∈ as, (a == sysModules) = false) →
      At1 (model r.prog w) (PySem.call (.ref a) vals) (fun v s' => GoodWG r.claim (classAt s₀.heap) (ExcName.means s₀.heap) args s₁ (.ok (.ret v)) s')
        (fun e s' => GoodWG r.claim (classAt s₀.heap) (ExcName.means s₀.heap) args s₁ (.error e) s') s₁
theorem holds1 {r : OpenRow} {q : Program} {loose : List Str} {Xt : Shared → Bool} {XP : (Str → Option PySem.Value) → Heap → Prop} {α : Type} {Yf : Shared → α} {Ya : World → α} {d : DefRec} {kwd : List (Str × Expr)} {N : Nat}
    (left : LeftO r.prog q loose Xt Yf Ya N) (hX : ∀ s, Xt s = true → XP (s.heap.nsMap mainGlobals) s.heap) (hXk : ∀ mg h h', XP mg h → (∀ b o, h.get? b = some o → h'.get? b = some o) → XP mg h')
    (hdef : defOf q r.name = some (d, kwd)) (hp : r.prog.theDef r.name = some (d.params, d.body, d.scope)) (hk : kwWritten? d.params.kwonlyargs d.params.kw_defaults = some kwd) (hRf : ∀ s, Xt s = true → RecFacts r.records s.heap) (hwr : (!r.writes || r.records.isEmpty) = true)
    (k1 : r.wellSaid = true) (ok : (chainsOk q && opensWell r.prog && (frees r.toRowW && r.within.isEmpty)) = true) (hb : r.prog.bare) (hw : r.toRowW.promised) (call : Walk1 q loose XP Yf Ya r.toRowW d kwd) : r.Holds := by
  run_tac sq0
  refine ⟨k1, hw, ?_⟩
  simp only [Bool.and_eq_true] at ok
  obtain ⟨⟨hch, hop⟩, hfr, hwi⟩ := ok
  obtain ⟨hsame, hu, ha, hap, hm⟩ := frees_parts hfr
  have hi := ident_freeW hu ha hap
  have hwi' : r.toRowW.claim.within = [] := List.isEmpty_iff.mp hwi
  refine ⟨⟨hb, hop, by show r.makers.map _ = []; rw [hm]; rfl⟩, hw.witness, fun w => ⟨(left.behind hX hch w).1, fun sx hsx => ?_⟩⟩
  obtain ⟨s₀, hf, hg0, s, hT, hz, hgs, hmg, G, y⟩ := (left.behind (XP := fun mg h => XP mg h ∧ RecFacts r.records h) (fun s hs => ⟨hX s hs, hRf s hs⟩) hch w).2 sx hsx
  have RF := G.X.2
  have G0 : Ground q loose [] XP w s (s.heap.nsMap mainGlobals) (s.heap.nsMap builtinsNs) s.heap := { G with X := G.X.1 }
  have GR : Ground q loose r.records XP w s (s.heap.nsMap mainGlobals) (s.heap.nsMap builtinsNs) s.heap := RF.ground G0
  have hgens : s.gens = #[] := Array.eq_empty_of_size_eq_zero (beq_iff_eq.mp hgs)
  refine ⟨s₀, hf, hg0, s, hT, fun n hn => ?_, RF.1, RF.2.1, from1 (c := r.toRowW.claim) hz hgens fun args hpre hlay ord hord => ?_⟩
  · obtain rfl : n = r.name := by split at hn <;> simp_all
    exact pinned_of_view hmg G0 hdef hp hk
  obtain ⟨⟨vs, s₁⟩, hlaid⟩ := Option.isSome_iff_exists.mp (layAllW_isSome (P := w.params) (ord := ord) GR.has args r.args s (pre_splitW hpre).1)
  have keeps := layAllW_keeps _ _ _ hlaid
  have rest := layAllW_rest _ _ _ hlaid
  obtain ⟨as, hrd, hin, hold⟩ := reads_layAllW hord _ _ _ hlaid hlay s₁.heap (fun _ _ e => e)
  have L : Laid r.records w s s₁ args vs as := ⟨⟨ord, hord, hlaid⟩, hrd, hin, hold, keeps, rest.1.trans hgens, rest.2.2.1⟩
  have G1 := GR.keeps hXk keeps
  obtain ⟨a, o, pm, cd, doc, dV, kV, h1, h2, h3, h4, h5⟩ := G1.fn hdef
  have hcall := call w s s₁ _ _ G1 y a o pm cd doc dV kV h2 h3 h4 h5 (defOf_name hdef ▸ h1) L.gens args vs as L hpre hlay L.reads L.well (L.low GR.low)
  refine ⟨vs, s₁, hlaid, ?_⟩
  have fin : ∀ rr s', GoodWG r.toRowW.claim (classAt s.heap) (ExcName.means s.heap) args s₁ rr s' → r.toRowW.claim.Ends s args vs s₁ rr s' ∧ s'.os = s.os ∧ AllBare s'.gens ∧ (r.writes = true → namesKept r.prog r.keeps s.heap s'.heap ∧ ∀ x ∈ r.records, ∀ a, classAt s.heap x.1 = some a → recordClass s'.heap a x.1 (x.2.map (·.1)) = true) := fun rr s' g =>
    have z := g.laid (c := r.toRowW.claim) hsame hwi' hi L
    ⟨z.1, z.2.1, z.2.2, fun qq => ⟨namesKept_of hT hmg _ keeps g.2.1.old, noTable hwr qq⟩⟩
  exact at1_bind (at1_mono (at1_of (wpAny_nsGet (E := fun e s' => r.toRowW.claim.Ends s args vs s₁ (.error e) s' ∧ s'.os = s.os ∧ AllBare s'.gens ∧ (r.writes = true → namesKept r.prog r.keeps s.heap s'.heap ∧ ∀ x ∈ r.records, ∀ a, classAt s.heap x.1 = some a → recordClass s'.heap a x.1 (x.2.map (·.1)) = true)) (Q := fun v s' => v = some (.ref a) ∧ s' = s₁) G1.T.g ⟨h1, rfl⟩)) (by
    rintro v s' ⟨rfl, rfl⟩
    refine at1_bind (at1_mono hcall (fun v s' g => ?_) fun e s' g => ?_)
    · exact fun p => ⟨_, rfl, fin _ _ g⟩
    · exact fin _ _ g) fun _ _ h => h)
  run_tac sq
end Mine
end -- B1
section
open PySem PySem.W PySem.W.X PyProof.Rows
open PySem.W.X PySem.W.ZRun
open Lean Elab Tactic Meta in
def Mine2.relay (env1 : Environment) : Nat → Lean.Name → CoreM Unit
| 0, n => throwError "too deep {n}"
| f + 1, n => do
  if (← getEnv).contains n then return
  let some c := env1.find? n | throwError "no such constant {n}"
  match c with
  | .thmInfo v =>
    for m in v.type.getUsedConstants do Mine2.relay env1 f m
    let big := n.getPrefix == `PySem.W.Fast
    if big then
      if let some (α, l, _) := v.type.eq? then
        let u ← (Meta.getLevel α).run'
        addDecl (.thmDecl { v with value := mkApp2 (mkConst ``Eq.refl [u]) α l })
        return
    for m in v.value.getUsedConstants do Mine2.relay env1 f m
    addDecl (.thmDecl v)
  | .defnInfo v =>
    for m in v.type.getUsedConstants do Mine2.relay env1 f m
    for m in v.value.getUsedConstants do Mine2.relay env1 f m
    addDecl (.defnDecl v)
  | _ => throwError "no such kind {n}"
open Lean Elab Tactic Meta in
def Mine2.headTac (hc : Lean.Name) : TacticM Unit := do
  let env0 ← getEnv
  evalTactic (← `(tactic| (w_on; o_law)))
  let g ← getMainGoal
  let rest := (← getGoals).drop 1
  let ty ← g.getType
  let g0 ← withLCtx {} {} (mkFreshExprSyntheticOpaqueMVar (← instantiateMVars ty))
  setGoals [g0.mvarId!]
  evalTactic (← `(tactic| z_head))
  let env1 ← getEnv
  let gs ← getGoals
  let pf ← instantiateMVars g0
  let some e := pf.find? fun e => e.isAppOf ``PySem.W.holds_openX && e.getAppArgs.back!.isMVar | throwError "no head: {pf}"
  let args := e.getAppArgs
  let e' := mkAppN (mkConst ``Mine.holds1) args.pop
  let t ← inferType e'
  let X := t.bindingDomain!
  g.withContext do
    let some d := (← getLCtx).findFromUserName? hc | throwError "no such fact"
    (← instantiateMVars d.type).mvarId!.assign X
    g.assign (pf.replace fun y => if y == e then some (mkApp e' d.toExpr) else none)
  let gs := gs.filter (· != args.back!.mvarId!)
  let mut us := (← instantiateMVars (.mvar g)).getUsedConstants ++ (← instantiateMVars X).getUsedConstants
  for h in gs do
    us := us ++ (← instantiateMVars (← h.getType)).getUsedConstants
    for l in (← h.getDecl).lctx do
      us := us ++ (← instantiateMVars l.type).getUsedConstants
      if let some v := l.value? then us := us ++ (← instantiateMVars v).getUsedConstants
  let mut more : Array Lean.Name := #[]
  for (n, _) in env1.constants.map₂.toList do
    if !env0.contains n then
      if n.getPrefix != `PySem.W.Fast then more := more.push n
      else if let some c := env1.find? n then
        if let some (_, l, _) := c.type.eq? then
          if l.isConst && !(`Mine).isPrefixOf l.constName! then more := more.push n
  us := us ++ more.qsort Lean.Name.lt
  setEnv env0
  for n in us do Mine2.relay env1 100000 n
  setGoals (gs ++ rest)
set_option maxHeartbeats 0 in
noncomputable def Mine2.D : { X : Prop // X → PySem.Challenge.rw_ph0154_02.Holds } := by
  refine ⟨?X, fun hc => ?g⟩
  case g =>
    run_tac Mine2.headTac `hc
    all_goals w_witness2
end
section -- RN
set_option backward.match.sparseCases false
set_option genSizeOf false
open PySem PySem.W PySem.W.X
namespace Mine
noncomputable def tabF : String → Option Builtin := PySem.W.Fast.tw14364793385576792824
noncomputable def denF : Code → Sem PySem.Fin := PySem.W.Fast.tw11892475500146522536 tabF
theorem denF_eq : denote table = denF := by
  unfold denF tabF
  rw [table_eq_tree, ← PySem.W.Fast.te14364793385576792824, ← PySem.W.Fast.te11892475500146522536]
noncomputable def quietF : Code → Bool := PySem.W.ZFast.zw17772548960776305114
theorem quietF_eq : Code.quiet = quietF := PySem.W.ZFast.ze17772548960776305114
noncomputable def Go (M : Model) (R : Result → Shared → Prop) (Γ : Ctx) (c : Code) (p : Pos) (fs : List Frame) (t : Sem PySem.Fin) (s : Shared) : Prop :=
  ∃ r s', Runs M (Γ.goto c) p t fs s (.ret r) s' ∧ R r s'
structure MV where
  set : Setting
  set1 : Setting
  set2 : Setting
  kt : KT
  tabs : List Nat
  n : Nat
  tk : Nat
  G : Nat
  B0 : List (Code × Pos)
structure Ob where
  ol : List (List (Code × Pos) → Sem PySem.Fin)
  or : List (Sem PySem.Fin)
  wl : List (Sem PySem.Fin)
  wr : List (Sem PySem.Fin)
noncomputable def ob0 : Ob := ⟨[], [], [], []⟩
noncomputable def Ob.sd (o : Ob) (f : List (Code × Pos) → Sem PySem.Fin) (t : Sem PySem.Fin) : Ob := ⟨f :: o.ol, t :: o.or, o.wl, o.wr⟩
noncomputable def Ob.wd (o : Ob) (t t' : Sem PySem.Fin) : Ob := ⟨o.ol, o.or, t :: o.wl, t' :: o.wr⟩
noncomputable def apB : List (List (Code × Pos) → Sem PySem.Fin) → List (Code × Pos) → List (Sem PySem.Fin)
  | [], _ => []
  | f :: l, B => f B :: apB l B
noncomputable def Ob.ok (o : Ob) (B : List (Code × Pos)) : Prop := apB o.ol B = o.or ∧ o.wl = o.wr
noncomputable def cxB (B : List (Code × Pos)) : Ctx := ⟨.block [] default, none, none, B, none⟩
noncomputable def whereF : List Frame → List (Code × Pos) → List (Code × Pos)
  | [], B => B
  | f :: fs, B => f.where_ :: whereF fs B
theorem whereF_eq : ∀ (fs : List Frame) (B : List (Code × Pos)), whereF fs B = fs.map Frame.where_ ++ B
  | [], _ => rfl
  | f :: fs, B => by show f.where_ :: whereF fs B = _; rw [whereF_eq fs B]; rfl
noncomputable def stk (c : Code) (p : Pos) (fs : List Frame) (B : List (Code × Pos)) : List (Code × Pos) := (c, p) :: whereF fs B
noncomputable abbrev Cells := List (Addr × Obj)
noncomputable abbrev GL := List (Nat × GenState)
structure Cf where
  c : Code
  p : Pos
  fs : List Frame
  t : Sem PySem.Fin
  cells : Cells
  m : Nat
  i : Nat
  gl : GL
  gm : Nat
  l : List Nat
  r : List Nat
  ob : Ob
noncomputable def cellAt {α : Type} : List (Nat × α) → Nat → Option (Nat × α)
  | [], _ => none
  | q :: l, i => match Nat.beq i 0 with
    | true => some q
    | false => cellAt l (Nat.sub i 1)
noncomputable def cellSet {α : Type} : List (Nat × α) → Nat → (α → α) → List (Nat × α)
  | [], _, _ => []
  | q :: l, i, f => match Nat.beq i 0 with
    | true => (q.1, f q.2) :: l
    | false => q :: cellSet l (Nat.sub i 1) f
noncomputable def inTabs : List Nat → Nat → Bool
  | [], _ => false
  | b :: l, x => match Nat.beq x b with
    | true => true
    | false => inTabs l x
noncomputable def freedB (o : Obj) : Bool := match o.data with | .freed => true | _ => false
noncomputable abbrev RunTy := Nat → Code → Pos → List Frame → Sem PySem.Fin → Cells → Nat → Nat → GL → Nat → List Nat → List Nat → Ob → Option Cf
set_option backward.match.sparseCases true in
noncomputable def resOf (r : Result) : GenResult := match r with
  | .ok f => .returned (match f with | .ret v => v | _ => .none)
  | .error e => .raised e
noncomputable def popF (ih : RunTy) (a : Nat) (res : Result) (fs : List Frame) (cells : Cells) (m i : Nat) (gl : GL) (gm : Nat) (l r : List Nat) (ob : Ob) : Option Cf := match fs with
  | [] => none
  | f :: fs' => match f with
    | .ret k _ _ _ c₁ p₁ _ => ih a c₁ p₁ fs' (k res) cells m i gl gm l r ob
    | .gen g k _ c₁ p₁ => match cellAt gl (Nat.mod a 64) with
      | some q => ih (Nat.div a 64) c₁ p₁ fs' (k (resOf res)) cells m i (cellSet gl (Nat.mod a 64) (fun _ => .finished)) gm (g :: l) (q.1 :: r) ob
      | none => none
noncomputable def peekR (V : MV) : Nat → Sem PySem.Fin → Sem PySem.Fin
  | 0, t => t
  | j + 1, t => match t with
    | .rule _ k => peekR V j (k ())
    | .point _ k => peekR V j (k ())
    | .load x part k => match inTabs V.tabs x with
      | true => .load x part k
      | false => match V.kt.get x with
        | some o => peekR V j (k o)
        | none => .load x part k
    | t => t
noncomputable def peekE (V : MV) : Nat → Sem PySem.Fin → Sem PySem.Fin
  | 0, t => t
  | j + 1, t => match t with
    | .rule _ k => peekE V j (k ())
    | .point _ k => peekE V j (k ())
    | .load x part k => match inTabs V.tabs x with
      | true => .load x part k
      | false => match V.kt.get x with
        | some o => peekE V j (k o)
        | none => .load x part k
    | t => t
noncomputable def hnd (own : Bool) (c : Code) (fs : List Frame) : Option PySem.Value := match own with
  | true => (((cxB []).goto c).over fs).own
  | false => (((cxB []).goto c).over fs).handled
noncomputable def getF (V : MV) (ih : RunTy) (x : Addr) (k : Obj → Sem PySem.Fin) (a : Nat) (c : Code) (p : Pos) (fs : List Frame) (cells : Cells) (m i : Nat) (gl : GL) (gm : Nat) (l r : List Nat) (ob : Ob) : Option Cf := match Nat.mod a 64 with
  | 0 => match inTabs V.tabs x with
    | true => none
    | false => match V.kt.get x with
      | some o => ih (Nat.div a 64) c p fs (k o) cells m i gl gm l r ob
      | none => none
  | j + 1 => match cellAt cells j with
    | some q => ih (Nat.div a 64) c p fs (k q.2) cells m i gl gm (x :: l) (q.1 :: r) ob
    | none => none
noncomputable def updF (ih : RunTy) (x : Addr) (f : Obj → Obj) (t : Sem PySem.Fin) (a : Nat) (c : Code) (p : Pos) (fs : List Frame) (cells : Cells) (m i : Nat) (gl : GL) (gm : Nat) (l r : List Nat) (ob : Ob) : Option Cf := match Nat.mod a 64 with
  | 0 => none
  | j + 1 => match cellAt cells j with
    | some q => match freedB (f q.2) with
      | true => none
      | false => ih (Nat.div a 64) c p fs t (cellSet cells j f) m i gl gm (x :: l) (q.1 :: r) ob
    | none => none
noncomputable def gstF (ih : RunTy) (g : Nat) (k : GenStatus × Option (List (Code × Pos)) → Sem PySem.Fin) (a : Nat) (c : Code) (p : Pos) (fs : List Frame) (cells : Cells) (m i : Nat) (gl : GL) (gm : Nat) (l r : List Nat) (ob : Ob) : Option Cf := match cellAt gl (Nat.mod a 64) with
  | some q => ih (Nat.div a 64) c p fs (k q.2.seen) cells m i gl gm (g :: l) (q.1 :: r) ob
  | none => none
noncomputable def resF (ih : RunTy) (g : Nat) (rs : Resume) (lv : List PySem.Value) (k : GenResult → Sem PySem.Fin) (a : Nat) (c : Code) (p : Pos) (fs : List Frame) (cells : Cells) (m i : Nat) (gl : GL) (gm : Nat) (l r : List Nat) (ob : Ob) : Option Cf := match cellAt gl (Nat.mod a 64) with
  | some q => match q.2 with
    | .fresh c₀ => match rs with
      | .send v => match v with
        | .none => ih (Nat.div a 64) c₀ p (.gen g k lv c p :: fs) (denF c₀) cells m i (cellSet gl (Nat.mod a 64) (fun _ => .running)) gm (g :: l) (q.1 :: r) ob
        | _ => none
      | _ => none
    | .suspended k₀ _ c₀ p₀ fs₀ _ => ih (Nat.div a 64) c₀ p₀ (fs₀ ++ .gen g k lv c p :: fs) (k₀ rs) cells m i (cellSet gl (Nat.mod a 64) (fun _ => .running)) gm (g :: l) (q.1 :: r) ob
    | .finished => ih (Nat.div a 64) c p fs (k .finished) cells m i gl gm (g :: l) (q.1 :: r) ob
    | .running => none
  | none => none
noncomputable def yieF (ih : RunTy) (v : PySem.Value) (gd : Bool) (lv : List PySem.Value) (k : Resume → Sem PySem.Fin) (a : Nat) (c : Code) (p : Pos) (fs : List Frame) (cells : Cells) (m i : Nat) (gl : GL) (gm : Nat) (l r : List Nat) (ob : Ob) : Option Cf := match splitAtGen fs with
  | some (pre, (g, k', c₁, p₁), rest) => match (gd || pre.any Frame.guarded) with
    | true => none
    | false => match cellAt gl (Nat.mod a 64) with
      | some q => ih (Nat.div a 64) c₁ p₁ rest (k' (.yielded v)) cells m i (cellSet gl (Nat.mod a 64) (fun _ => .suspended k lv c p pre false)) gm (g :: l) (q.1 :: r) ob
      | none => none
  | none => none
noncomputable def stepF (V : MV) (ih : RunTy) : RunTy := fun a c p fs t cells m i gl gm l r ob => match t with
  | .pure fin => match fin with
    | .done f => popF ih a (.ok f) fs cells m i gl gm l r ob
    | .again c' => match quietF c' with
      | true => ih a c' p fs (denF c') cells m i gl gm l r ob
      | false => none
  | .raise e => popF ih a (.error e) fs cells m i gl gm l r ob
  | .rule _ k => ih a c p fs (k ()) cells m i gl gm l r ob
  | .at q k => ih a c q fs (k ()) cells m i gl gm l r ob
  | .point _ k => ih a c p fs (k ()) cells m i gl gm l r ob
  | .ask k => match Nat.mod a 64 with
    | 0 => ih (Nat.div a 64) c p fs (k V.set) cells m i gl gm l r ob
    | j + 1 => ih (Nat.div a 64) c p fs (peekR V j (k V.set1)) cells m i gl gm l r (ob.wd (peekR V j (k V.set1)) (peekE V j (k V.set2)))
  | .load x _ k => getF V ih x k a c p fs cells m i gl gm l r ob
  | .loadIfAlive x k => getF V ih x (fun o => k (some o)) a c p fs cells m i gl gm l r ob
  | .update x _ f k => updF ih x f (k ()) a c p fs cells m i gl gm l r ob
  | .alloc o k => match freedB o with
    | true => none
    | false => ih a c p fs (k (V.n + m)) ((V.n + m, o) :: cells) (m + 1) i gl gm l r ob
  | .fresh k => ih a c p fs (k (V.tk + i)) cells m (i + 1) gl gm l r ob
  | .handled own k => ih a c p fs (k (hnd own c fs)) cells m i gl gm l r ob
  | .stack k => ih (Nat.div a 64) c p fs (peekR V (Nat.mod a 64) (k (stk c p fs V.B0))) cells m i gl gm l r (ob.sd (fun B => peekE V (Nat.mod a 64) (k (stk c p fs B))) (peekR V (Nat.mod a 64) (k (stk c p fs V.B0))))
  | .call c' h g lv k => ih a c' p (.ret k h g lv c p [] :: fs) (denF c') cells m i gl gm l r ob
  | .newGen c' k => ih a c p fs (k (V.G + gm)) cells m i ((V.G + gm, .fresh c') :: gl) (gm + 1) l r ob
  | .genState g k => gstF ih g k a c p fs cells m i gl gm l r ob
  | .resume g rs lv k => resF ih g rs lv k a c p fs cells m i gl gm l r ob
  | .yield v gd lv k => yieF ih v gd lv k a c p fs cells m i gl gm l r ob
  | _ => none
noncomputable def run (V : MV) : Nat → RunTy
  | 0 => fun _ c p fs t cells m i gl gm l r ob => some ⟨c, p, fs, t, cells, m, i, gl, gm, l, r, ob⟩
  | n + 1 => stepF V (run V n)
theorem inTabs_iff : ∀ {l : List Nat} {x : Nat}, inTabs l x = true ↔ x ∈ l
  | [], x => by simp [inTabs]
  | b :: l, x => by
    unfold inTabs
    cases h : Nat.beq x b with
    | true => simp [Nat.eq_of_beq_eq_true h]
    | false =>
      have : x ≠ b := Nat.ne_of_beq_eq_false h
      simp [this, inTabs_iff (l := l)]
theorem cellAt_mem {α : Type} : ∀ {l : List (Nat × α)} {i : Nat} {q : Nat × α}, cellAt l i = some q → q ∈ l
  | [], _, _, h => by cases h
  | x :: l, i, q, h => by
    unfold cellAt at h
    split at h
    · cases h; exact .head _
    · exact .tail _ (cellAt_mem h)
theorem cellSet_keys {α : Type} : ∀ (l : List (Nat × α)) (i : Nat) (f : α → α), (cellSet l i f).map (·.1) = l.map (·.1)
  | [], _, _ => rfl
  | x :: l, i, f => by
    unfold cellSet
    split
    · rfl
    · rw [List.map_cons, List.map_cons, cellSet_keys l]
theorem cellSet_mem {α : Type} : ∀ {l : List (Nat × α)} {i : Nat} {f : α → α} {q x : Nat × α}, (l.map (·.1)).Nodup → cellAt l i = some q → x ∈ cellSet l i f → x = (q.1, f q.2) ∨ (x ∈ l ∧ x.1 ≠ q.1)
  | [], _, _, _, _, _, h, _ => by cases h
  | y :: l, i, f, q, x, hn, h, hx => by
    unfold cellAt at h
    unfold cellSet at hx
    rw [List.map_cons, List.nodup_cons] at hn
    split at h
    · rename_i hb
      rw [hb] at hx
      cases h
      rcases List.mem_cons.mp hx with rfl | hx
      · exact .inl rfl
      · exact .inr ⟨.tail _ hx, fun e => hn.1 (e ▸ List.mem_map_of_mem hx)⟩
    · rename_i hb
      rw [hb] at hx
      rcases List.mem_cons.mp hx with rfl | hx
      · exact .inr ⟨.head _, fun e => hn.1 (e ▸ List.mem_map_of_mem (cellAt_mem h))⟩
      · rcases cellSet_mem hn.2 h hx with e | ⟨e, e'⟩
        · exact .inl e
        · exact .inr ⟨.tail _ e, e'⟩
theorem freedB_eq (o : Obj) : freedB o = o.isFreed := by
  obtain ⟨c, d, dt, sl⟩ := o
  cases dt <;> rfl
structure Rep (h₀ : Heap) (kt : KT) (tabs : List Nat) (n : Nat) (h : Heap) (cells : Cells) (m : Nat) : Prop where
  size : h.objs.size = n + m
  base : h₀.objs.size ≤ n
  keep : ∀ b o, h₀.get? b = some o → (∀ q ∈ cells, q.1 ≠ b) → h.get? b = some o
  own : ∀ q ∈ cells, h.get? q.1 = some q.2
  nodup : (cells.map (·.1)).Nodup
  off : ∀ q ∈ cells, h₀.get? q.1 = none ∨ q.1 ∈ tabs
structure RepG (g : Array GenState) (G gm : Nat) (gl : GL) : Prop where
  size : g.size = G + gm
  own : ∀ q ∈ gl, g[q.1]? = some q.2
  nodup : (gl.map (·.1)).Nodup
  bare : ∀ j x, g[j]? = some x → (∀ q ∈ gl, q.1 ≠ j) → x.bare = true
section
variable {h₀ h : Heap} {kt : KT} {tabs : List Nat} {n m : Nat} {cells : Cells}
theorem kt_get (hk : kt.Holds h₀ 1 0) {a : Addr} {o : Obj} (e : kt.get a = some o) : h₀.get? a = some o := by
  have := KT.Holds.get hk e
  rw [Nat.one_mul, Nat.add_zero] at this
  exact this
theorem Rep.old (hk : kt.Holds h₀ 1 0) (D : Rep h₀ kt tabs n h cells m) {a : Addr} {o : Obj} (ht : inTabs tabs a = false) (e : kt.get a = some o) : h.get? a = some o := by
  refine D.keep a o (kt_get hk e) fun q hq ha => ?_
  subst ha
  rcases D.off q hq with z | z
  · rw [kt_get hk e] at z; cases z
  · rw [inTabs_iff.mpr z] at ht; cases ht
theorem Rep.update (D : Rep h₀ kt tabs n h cells m) {j : Nat} {q : Addr × Obj} {f : Obj → Obj} (e : cellAt cells j = some q) (hf : freedB (f q.2) = false) : Rep h₀ kt tabs n (h.update q.1 f) (cellSet cells j f) m := by
  run_tac sq0
  have ho := D.own q (cellAt_mem e)
  have hs : Heap.SameBut q.1 h (h.update q.1 f) := Heap.SameBut.update ..
  rw [freedB_eq] at hf
  have ge : (h.update q.1 f).get? q.1 = some (f q.2) := by first | exact Heap.get?_update_self f ho hf | exact Heap.get?_update_self _ ho hf
  have hk := cellSet_keys cells j f
  refine ⟨by rw [hs.1, D.size], D.base, fun b o hb hn => ?_, fun x hx => ?_, by rw [hk]; exact D.nodup, fun x hx => ?_⟩
  · have hn' : ∀ q ∈ cells, q.1 ≠ b := fun q hq => by
      have : q.1 ∈ (cellSet cells j f).map (·.1) := by rw [hk]; exact List.mem_map_of_mem hq
      obtain ⟨y, hy, e'⟩ := List.mem_map.mp this
      exact e' ▸ hn y hy
    exact (hs.2 b (Ne.symm (hn' q (cellAt_mem e)))).trans (D.keep b o hb hn')
  · rcases cellSet_mem D.nodup e hx with rfl | ⟨hm, hne⟩
    · exact ge
    · exact (hs.2 _ hne).trans (D.own x hm)
  · have : x.1 ∈ cells.map (·.1) := by rw [← hk]; exact List.mem_map_of_mem hx
    obtain ⟨y, hy, e'⟩ := List.mem_map.mp this
    exact e' ▸ D.off y hy
  run_tac sq
theorem Rep.alloc (hk : kt.Holds h₀ 1 0) (D : Rep h₀ kt tabs n h cells m) {o : Obj} (hf : freedB o = false) : Rep h₀ kt tabs n (h.push o) ((n + m, o) :: cells) (m + 1) := by
  run_tac sq0
  rw [freedB_eq] at hf
  refine ⟨by rw [Heap.size_push, D.size, Nat.add_assoc], D.base, fun b ob hb hn => Heap.get?_push_of_some _ (D.keep b ob hb fun q hq => hn q (.tail _ hq)), fun x hx => ?_, ?_, fun x hx => ?_⟩
  · rcases List.mem_cons.mp hx with rfl | hx
    · show (h.push o).get? (n + m) = some o
      rw [← D.size]; exact Heap.get?_push_size _ hf
    · exact Heap.get?_push_of_some _ (D.own x hx)
  · rw [List.map_cons, List.nodup_cons]
    refine ⟨fun hm => ?_, D.nodup⟩
    obtain ⟨y, hy, e⟩ := List.mem_map.mp hm
    have := Heap.lt_size (D.own y hy)
    rw [D.size] at this
    exact absurd e (Nat.ne_of_lt this)
  · rcases List.mem_cons.mp hx with rfl | hx
    · left
      show h₀.get? (n + m) = none
      cases e : h₀.get? (n + m) with
      | none => rfl
      | some o' =>
        have h1 : n + m < h₀.objs.size := Heap.lt_size e
        have h2 : h₀.objs.size ≤ n := D.base
        (run_tac om)
    · exact D.off x hx
  run_tac sq
end
section
variable {g : Array GenState} {G gm : Nat} {gl : GL}
theorem RepG.new (D : RepG g G gm gl) (c : Code) : RepG (g.push (.fresh c)) G (gm + 1) ((G + gm, .fresh c) :: gl) := by
  run_tac sq0
  have lt : ∀ q ∈ gl, q.1 < G + gm := fun q hq => by
    have := D.own q hq
    rw [← D.size]
    exact (Array.getElem?_eq_some_iff.mp this).1
  refine ⟨by rw [Array.size_push, D.size, Nat.add_assoc], fun q hq => ?_, ?_, fun j x hx hn => ?_⟩
  · rcases List.mem_cons.mp hq with rfl | hq
    · show (g.push (.fresh c))[G + gm]? = _
      rw [← D.size]; simp
    · rw [Array.getElem?_push, if_neg (by rw [D.size]; exact Nat.ne_of_lt (lt q hq))]
      exact D.own q hq
  · rw [List.map_cons, List.nodup_cons]
    refine ⟨fun hm => ?_, D.nodup⟩
    obtain ⟨y, hy, e⟩ := List.mem_map.mp hm
    exact absurd e (Nat.ne_of_lt (lt y hy))
  · rw [Array.getElem?_push] at hx
    split at hx
    · cases hx; rfl
    · exact D.bare j x hx fun q hq => hn q (.tail _ hq)
  run_tac sq
theorem RepG.put (D : RepG g G gm gl) {j : Nat} {q : Nat × GenState} {x : GenState} (e : cellAt gl j = some q) : RepG (g.setIfInBounds q.1 x) G gm (cellSet gl j (fun _ => x)) := by
  run_tac sq0
  have ho := D.own q (cellAt_mem e)
  have hk := cellSet_keys gl j (fun _ => x)
  have hlt : q.1 < g.size := (Array.getElem?_eq_some_iff.mp ho).1
  refine ⟨by rw [Array.size_setIfInBounds, D.size], fun y hy => ?_, by rw [hk]; exact D.nodup, fun i y hy hn => ?_⟩
  · rcases cellSet_mem D.nodup e hy with rfl | ⟨hm, hne⟩
    · show (g.setIfInBounds q.1 x)[q.1]? = some x
      rw [Array.getElem?_setIfInBounds, if_pos rfl, if_pos hlt]
    · rw [Array.getElem?_setIfInBounds, if_neg (Ne.symm hne)]
      exact D.own y hm
  · have hn' : ∀ q ∈ gl, q.1 ≠ i := fun q hq => by
      have : q.1 ∈ (cellSet gl j (fun _ => x)).map (·.1) := by rw [hk]; exact List.mem_map_of_mem hq
      obtain ⟨y, hy, e'⟩ := List.mem_map.mp this
      exact e' ▸ hn y hy
    rw [Array.getElem?_setIfInBounds, if_neg (hn' q (cellAt_mem e))] at hy
    exact D.bare i y hy hn'
  run_tac sq
end
section
variable {M : Model} {R : Result → Shared → Prop} {Γ : Ctx} {c : Code} {p : Pos} {fs : List Frame} {t : Sem PySem.Fin} {s : Shared}
theorem go_head {p₁ : Pos} {t₁ : Sem PySem.Fin} {s₁ : Shared} (h : ∀ e₁ s₂, Runs M ((Γ.goto c).over fs) p₁ t₁ [] s₁ e₁ s₂ → Runs M ((Γ.goto c).over fs) p t [] s e₁ s₂) (H : Go M R Γ c p₁ fs t₁ s₁) : Go M R Γ c p fs t s := by
  obtain ⟨r, s', hr, hR⟩ := H
  exact ⟨r, s', Runs.head (c₁ := c) h hr, hR⟩
theorem go_again {c' : Code} (hq : c'.quiet = true) (H : Go M R Γ c' p fs (M.den c') s) : Go M R Γ c p fs (.pure (.again c')) s := by
  obtain ⟨r, s', hr, hR⟩ := H
  exact ⟨r, s', Runs.head (Γ := Γ.goto c) (c₁ := c') (fun _ _ h => .again hq h) hr, hR⟩
theorem go_call {c' : Code} {h : Option PySem.Value} {g : Bool} {l : List PySem.Value} {k : Result → Sem PySem.Fin} (H : Go M R Γ c' p (.ret k h g l c p [] :: fs) (M.den c') s) : Go M R Γ c p fs (.call c' h g l k) s := by
  obtain ⟨r, s', hr, hR⟩ := H
  exact ⟨r, s', runs_call_seg (Γ := Γ.goto c) hr, hR⟩
theorem go_pop {res : Result} {k : Result → Sem PySem.Fin} {h : Option PySem.Value} {g : Bool} {l kp : List PySem.Value} {c₁ : Code} {p₁ : Pos} (H : Go M R Γ c₁ p₁ fs (k res) s) : Go M R Γ c p (.ret k h g l c₁ p₁ kp :: fs) (leafOf res) s := by
  obtain ⟨r, s', hr, hR⟩ := H
  exact ⟨r, s', Runs.pop (Γ := Γ.goto c) res hr, hR⟩
theorem go_popGen {res : Result} {g : Nat} {k : GenResult → Sem PySem.Fin} {l : List PySem.Value} {c₁ : Code} {p₁ : Pos} (H : Go M R Γ c₁ p₁ fs (k (resOf res)) (s.setGen g .finished)) : Go M R Γ c p (.gen g k l c₁ p₁ :: fs) (leafOf res) s := by
  obtain ⟨r, s', hr, hR⟩ := H
  exact ⟨r, s', .segGen (Γ := Γ.goto c) (Runs.leaf res) (by cases res <;> exact hr), hR⟩
theorem go_fresh {g : Nat} {l : List PySem.Value} {k : GenResult → Sem PySem.Fin} {c₀ : Code} (hg : s.gens[g]? = some (.fresh c₀)) (H : Go M R Γ c₀ p (.gen g k l c p :: fs) (M.den c₀) (s.setGen g .running)) : Go M R Γ c p fs (.resume g (.send .none) l k) s := by
  obtain ⟨r, s', hr, hR⟩ := H
  obtain ⟨e₁, s₂, h₁, hq, h₂⟩ := Runs.splitGen hr [] _ _ _ _ _ _ rfl
  exact ⟨r, s', Runs.head (Γ := Γ.goto c) (c₁ := c) (fun _ _ hk => .resumeFresh hg h₁ hq hk) h₂, hR⟩
theorem go_susp {g : Nat} {rs : Resume} {l : List PySem.Value} {k : GenResult → Sem PySem.Fin} {k₀ : Resume → Sem PySem.Fin} {l₀ : List PySem.Value} {c₀ : Code} {p₀ : Pos} {fs₀ : List Frame} {cl : Bool} (hg : s.gens[g]? = some (.suspended k₀ l₀ c₀ p₀ fs₀ cl)) (H : Go M R Γ c₀ p₀ (fs₀ ++ .gen g k l c p :: fs) (k₀ rs) (s.setGen g .running)) : Go M R Γ c p fs (.resume g rs l k) s := by
  obtain ⟨r, s', hr, hR⟩ := H
  obtain ⟨e₁, s₂, h₁, hq, h₂⟩ := Runs.splitGen hr fs₀ _ _ _ _ _ _ rfl
  exact ⟨r, s', Runs.head (Γ := Γ.goto c) (c₁ := c) (fun _ _ hk => .resumeSuspended hg h₁ hq hk) h₂, hR⟩
theorem go_yield {v : PySem.Value} {gd : Bool} {l : List PySem.Value} {k : Resume → Sem PySem.Fin} {pre rest : List Frame} {g : Nat} {k' : GenResult → Sem PySem.Fin} {c₁ : Code} {p₁ : Pos} (hsp : splitAtGen fs = some (pre, (g, k', c₁, p₁), rest)) (hq : (gd || pre.any Frame.guarded) = false)
    (H : Go M R Γ c₁ p₁ rest (k' (.yielded v)) (s.setGen g (.suspended k l c p pre false))) : Go M R Γ c p fs (.yield v gd l k) s := by
  run_tac sq0
  (
  obtain ⟨r, s', hr, hR⟩ := H
  cases fs with
  | nil => cases hsp
  | cons F fs' =>
    refine ⟨r, s', .segSuspGen (Γ := Γ.goto c) (fs₀ := []) hsp .yield (by unfold End.quiet; simp only [List.nil_append]; rw [hq]; rfl) ?_, hR⟩
    have e : (End.susp v gd l k c p ([] ++ pre)).genState = .suspended k l c p pre false := by
      unfold End.genState; simp only [List.nil_append]; rw [hq]
    have e2 : ((Γ.goto c).over (F :: fs')).code = c := rfl
    rw [e2, e]; exact hr
  )
  run_tac sq
end
section
variable {M : Model} {R : Result → Shared → Prop} {V : MV} {h₀ : Heap} {d : Drawn} {os : OsState}
theorem peekE_eq : peekE V = peekR V := by
  run_tac sq0
  (
  funext j
  induction j with
  | zero => rfl
  | succ j ih =>
    funext t
    cases t <;> first | rfl | (show peekE V j _ = peekR V j _; rw [ih]) | skip
    rename_i x part k
    show (match inTabs V.tabs x with | true => Sem.load x part k | false => match V.kt.get x with | some o => peekE V j (k o) | none => Sem.load x part k) = (match inTabs V.tabs x with | true => Sem.load x part k | false => match V.kt.get x with | some o => peekR V j (k o) | none => Sem.load x part k)
    rw [ih]
  )
  run_tac sq
theorem go_peek {n m : Nat} {cells : Cells} {Γ : Ctx} {c : Code} {p : Pos} {fs : List Frame} {s : Shared} (hk : V.kt.Holds h₀ 1 0) (D : Rep h₀ V.kt V.tabs n s.heap cells m) : ∀ (j : Nat) (t : Sem PySem.Fin), Go M R Γ c p fs (peekR V j t) s → Go M R Γ c p fs t s
  | 0, _, H => H
  | j + 1, t, H => by
    cases t with
    | rule tag k => exact go_head (fun _ _ x => .rule x) (go_peek hk D j _ H)
    | point lv k => exact go_head (fun _ _ x => .point x) (go_peek hk D j _ H)
    | load x part k =>
      replace H : Go M R Γ c p fs (match inTabs V.tabs x with | true => Sem.load x part k | false => match V.kt.get x with | some o => peekR V j (k o) | none => Sem.load x part k) s := H
      split at H
      · exact H
      · rename_i ht
        split at H
        · rename_i o ho
          exact go_head (fun _ _ y => .load (D.old hk ht ho) y) (go_peek hk D j _ H)
        · exact H
    | _ => exact H
noncomputable def GoV (M : Model) (R : Result → Shared → Prop) (V : MV) (h₀ : Heap) (d : Drawn) (os : OsState) (B : List (Code × Pos)) (c : Code) (p : Pos) (fs : List Frame) (t : Sem PySem.Fin) (cells : Cells) (m i : Nat) (gl : GL) (gm : Nat) : Prop :=
  ∀ h g, Rep h₀ V.kt V.tabs V.n h cells m → RepG g V.G gm gl → Go M R (cxB B) c p fs t ⟨h, g, d, V.tk + i, os⟩
noncomputable def Snd (M : Model) (R : Result → Shared → Prop) (V : MV) (h₀ : Heap) (d : Drawn) (os : OsState) (l r : List Nat) (ob : Ob) (cf : Cf) (A : List (Code × Pos) → Prop) : Prop :=
  ∃ l' r' : List Nat, cf.l = l' ++ l ∧ cf.r = r' ++ r ∧ l'.length = r'.length ∧ ∀ B, cf.ob.ok B → ob.ok B ∧ (l' = r' → GoV M R V h₀ d os B cf.c cf.p cf.fs cf.t cf.cells cf.m cf.i cf.gl cf.gm → A B)
section
variable {l r : List Nat} {ob ob' : Ob} {cf : Cf} {A A' : List (Code × Pos) → Prop}
theorem Snd.o (h : Snd M R V h₀ d os l r ob' cf A) (st : ∀ B, ob'.ok B → ob.ok B ∧ (A B → A' B)) : Snd M R V h₀ d os l r ob cf A' := by
  obtain ⟨l', r', h1, h2, h3, h4⟩ := h
  exact ⟨l', r', h1, h2, h3, fun B hb => ⟨(st B (h4 B hb).1).1, fun z H => (st B (h4 B hb).1).2 ((h4 B hb).2 z H)⟩⟩
theorem Snd.f (h : Snd M R V h₀ d os l r ob cf A) (st : ∀ B, A B → A' B) : Snd M R V h₀ d os l r ob cf A' := h.o fun B hb => ⟨hb, st B⟩
theorem Snd.two {x y : Nat} (h : Snd M R V h₀ d os (x :: l) (y :: r) ob cf A) (st : x = y → ∀ B, A B → A' B) : Snd M R V h₀ d os l r ob cf A' := by
  run_tac sq0
  obtain ⟨l', r', h1, h2, h3, h4⟩ := h
  refine ⟨l' ++ [x], r' ++ [y], by rw [h1, List.append_assoc]; rfl, by rw [h2, List.append_assoc]; rfl, by simp [h3], fun B hb => ⟨(h4 B hb).1, fun z H => ?_⟩⟩
  obtain ⟨z1, z2⟩ := List.append_inj z h3
  exact st (List.cons.inj z2).1 B ((h4 B hb).2 z1 H)
  run_tac sq
end
noncomputable def RunOk (M : Model) (R : Result → Shared → Prop) (V : MV) (h₀ : Heap) (d : Drawn) (os : OsState) (f : RunTy) : Prop := ∀ (a : Nat) (c : Code) (p : Pos) (fs : List Frame) (t : Sem PySem.Fin) (cells : Cells) (m i : Nat) (gl : GL) (gm : Nat) (l r : List Nat) (ob : Ob) (cf : Cf),
    f a c p fs t cells m i gl gm l r ob = some cf → Snd M R V h₀ d os l r ob cf fun B => GoV M R V h₀ d os B c p fs t cells m i gl gm
section
variable {f : RunTy} {a : Nat} {c : Code} {p : Pos} {fs : List Frame} {cells : Cells} {m i : Nat} {gl : GL} {gm : Nat} {l r : List Nat} {ob : Ob} {cf : Cf}
theorem ok_pop (IH : RunOk M R V h₀ d os f) {res : Result} (e : popF f a res fs cells m i gl gm l r ob = some cf) : Snd M R V h₀ d os l r ob cf fun B => GoV M R V h₀ d os B c p fs (leafOf res) cells m i gl gm := by
  run_tac sq0
  (
  rcases fs with _ | ⟨F, fs'⟩
  · cases e
  cases F with
  | ret k hd gd lv c₁ p₁ kp => exact (IH _ _ _ _ _ _ _ _ _ _ _ _ _ _ e).f fun B z h g D E => go_pop (z h g D E)
  | gen g k lv c₁ p₁ =>
    cases hq : cellAt gl (Nat.mod a 64) with
    | none => simp only [popF, hq] at e; cases e
    | some q =>
      simp only [popF, hq] at e
      refine (IH _ _ _ _ _ _ _ _ _ _ _ _ _ _ e).two fun ex B z h gs D E => ?_
      subst ex
      exact go_popGen (z h _ D (E.put hq))
  )
  run_tac sq
theorem ok_get (IH : RunOk M R V h₀ d os f) (hk : V.kt.Holds h₀ 1 0) {x : Addr} {k : Obj → Sem PySem.Fin} {t : Sem PySem.Fin} (e : getF V f x k a c p fs cells m i gl gm l r ob = some cf)
    (H : ∀ B h g tk o, h.get? x = some o → Go M R (cxB B) c p fs (k o) ⟨h, g, d, tk, os⟩ → Go M R (cxB B) c p fs t ⟨h, g, d, tk, os⟩) : Snd M R V h₀ d os l r ob cf fun B => GoV M R V h₀ d os B c p fs t cells m i gl gm := by
  run_tac sq0
  unfold getF at e
  split at e
  · split at e
    · cases e
    · rename_i ht
      split at e
      · rename_i o ho
        exact (IH _ _ _ _ _ _ _ _ _ _ _ _ _ _ e).f fun B z h g D E => H B h g _ o (D.old hk ht ho) (z h g D E)
      · cases e
  · split at e
    · rename_i q hq
      refine (IH _ _ _ _ _ _ _ _ _ _ _ _ _ _ e).two fun ex B z h g D E => H B h g _ q.2 ?_ (z h g D E)
      subst ex
      exact D.own q (cellAt_mem hq)
    · cases e
  run_tac sq
theorem ok_upd (IH : RunOk M R V h₀ d os f) {x : Addr} {pt : Option PySem.Value} {u : Obj → Obj} {k : Unit → Sem PySem.Fin} (e : updF f x u (k ()) a c p fs cells m i gl gm l r ob = some cf) : Snd M R V h₀ d os l r ob cf fun B => GoV M R V h₀ d os B c p fs (.update x pt u k) cells m i gl gm := by
  run_tac sq0
  unfold updF at e
  split at e
  · cases e
  · split at e
    · rename_i q hq
      split at e
      · cases e
      · rename_i hf
        refine (IH _ _ _ _ _ _ _ _ _ _ _ _ _ _ e).two fun ex B z h g D E => ?_
        subst ex
        exact go_head (fun _ _ y => .update (by show (h.get? q.1).isSome; rw [D.own q (cellAt_mem hq)]; rfl) y) (z _ g (D.update hq hf) E)
    · cases e
  run_tac sq
theorem ok_gst (IH : RunOk M R V h₀ d os f) {g : Nat} {k : GenStatus × Option (List (Code × Pos)) → Sem PySem.Fin} (e : gstF f g k a c p fs cells m i gl gm l r ob = some cf) : Snd M R V h₀ d os l r ob cf fun B => GoV M R V h₀ d os B c p fs (.genState g k) cells m i gl gm := by
  unfold gstF at e
  split at e
  · rename_i q hq
    refine (IH _ _ _ _ _ _ _ _ _ _ _ _ _ _ e).two fun ex B z h gs D E => ?_
    subst ex
    exact go_head (fun _ _ y => .genState (E.own q (cellAt_mem hq)) y) (z h gs D E)
  · cases e
theorem ok_res (IH : RunOk M R V h₀ d os f) (hden : M.den = denF) {g : Nat} {rs : Resume} {lv : List PySem.Value} {k : GenResult → Sem PySem.Fin} (e : resF f g rs lv k a c p fs cells m i gl gm l r ob = some cf) : Snd M R V h₀ d os l r ob cf fun B => GoV M R V h₀ d os B c p fs (.resume g rs lv k) cells m i gl gm := by
  run_tac sq0
  unfold resF at e
  split at e
  · rename_i q hq
    obtain ⟨gi, st⟩ := q
    dsimp only at e
    split at e
    · split at e
      · split at e
        · refine (IH _ _ _ _ _ _ _ _ _ _ _ _ _ _ e).two fun ex B z h gs D E => ?_
          subst ex
          refine go_fresh (E.own _ (cellAt_mem hq)) ?_
          rw [hden]
          exact z h _ D (E.put hq)
        · cases e
      · cases e
    · refine (IH _ _ _ _ _ _ _ _ _ _ _ _ _ _ e).two fun ex B z h gs D E => ?_
      subst ex
      exact go_susp (E.own _ (cellAt_mem hq)) (z h _ D (E.put hq))
    · refine (IH _ _ _ _ _ _ _ _ _ _ _ _ _ _ e).two fun ex B z h gs D E => ?_
      subst ex
      exact go_head (fun _ _ y => .resumeFinished (E.own _ (cellAt_mem hq)) y) (z h gs D E)
    · cases e
  · cases e
  run_tac sq
theorem ok_yie (IH : RunOk M R V h₀ d os f) {v : PySem.Value} {gd : Bool} {lv : List PySem.Value} {k : Resume → Sem PySem.Fin} (e : yieF f v gd lv k a c p fs cells m i gl gm l r ob = some cf) : Snd M R V h₀ d os l r ob cf fun B => GoV M R V h₀ d os B c p fs (.yield v gd lv k) cells m i gl gm := by
  run_tac sq0
  unfold yieF at e
  split at e
  · rename_i pre g k' c₁ p₁ rest hsp
    split at e
    · cases e
    · rename_i hgd
      split at e
      · rename_i q hq
        refine (IH _ _ _ _ _ _ _ _ _ _ _ _ _ _ e).two fun ex B z h gs D E => ?_
        subst ex
        exact go_yield hsp hgd (z h _ D (E.put hq))
      · cases e
  · cases e
  run_tac sq
theorem ok_stack (IH : RunOk M R V h₀ d os f) (hk : V.kt.Holds h₀ 1 0) {k : List (Code × Pos) → Sem PySem.Fin} {j a' : Nat} (e : f a' c p fs (peekR V j (k (stk c p fs V.B0))) cells m i gl gm l r (ob.sd (fun B => peekE V j (k (stk c p fs B))) (peekR V j (k (stk c p fs V.B0)))) = some cf) : Snd M R V h₀ d os l r ob cf fun B => GoV M R V h₀ d os B c p fs (.stack k) cells m i gl gm := by
  run_tac sq0
  refine (IH _ _ _ _ _ _ _ _ _ _ _ _ _ _ e).o fun B ho => ?_
  obtain ⟨o1, o2⟩ := ho
  obtain ⟨o3, o4⟩ := List.cons.inj o1
  refine ⟨⟨o4, o2⟩, fun H h g D E => go_head (fun _ _ x => .stack x) ?_⟩
  have z := H h g D E
  rw [← o3, peekE_eq] at z
  have z2 := go_peek hk D _ _ z
  have e1 : stk c p fs B = ((((cxB B).goto c).over fs).code, p) :: (((cxB B).goto c).over fs).below := by
    show (c, p) :: whereF fs B = (c, p) :: (fs.map Frame.where_ ++ B)
    rw [whereF_eq]
  rw [e1] at z2
  exact z2
  run_tac sq
theorem ok_ask (IH : RunOk M R V h₀ d os f) (hk : V.kt.Holds h₀ 1 0) (hset : V.set = ⟨M.prog, M.w.params⟩) (hset2 : V.set = V.set1 ∨ V.set = V.set2) {k : Setting → Sem PySem.Fin} {j a' : Nat} (e : f a' c p fs (peekR V j (k V.set1)) cells m i gl gm l r (ob.wd (peekR V j (k V.set1)) (peekE V j (k V.set2))) = some cf) : Snd M R V h₀ d os l r ob cf fun B => GoV M R V h₀ d os B c p fs (.ask k) cells m i gl gm := by
  run_tac sq0
  refine (IH _ _ _ _ _ _ _ _ _ _ _ _ _ _ e).o fun B ho => ?_
  obtain ⟨o1, o2⟩ := ho
  obtain ⟨o3, o4⟩ := List.cons.inj o2
  refine ⟨⟨o1, o4⟩, fun H h g D E => go_head (fun _ _ x => .ask x) ?_⟩
  rw [← hset]
  refine go_peek hk D j _ ?_
  have z := H h g D E
  rcases hset2 with e1 | e1
  · rw [e1]; exact z
  · rw [e1, ← congrFun (congrFun peekE_eq j) _, ← o3]; exact z
  run_tac sq
theorem ok_alloc (IH : RunOk M R V h₀ d os f) (hk : V.kt.Holds h₀ 1 0) {o : Obj} {k : Addr → Sem PySem.Fin} (hf : freedB o = false) (e : f a c p fs (k (V.n + m)) ((V.n + m, o) :: cells) (m + 1) i gl gm l r ob = some cf) : Snd M R V h₀ d os l r ob cf fun B => GoV M R V h₀ d os B c p fs (.alloc o k) cells m i gl gm := by
  refine (IH _ _ _ _ _ _ _ _ _ _ _ _ _ _ e).f fun B H h g D E => go_head (fun _ _ y => .alloc y) ?_
  have z := H _ g (D.alloc hk hf) E
  rw [← D.size] at z
  exact z
theorem ok_newGen (IH : RunOk M R V h₀ d os f) {c' : Code} {k : Nat → Sem PySem.Fin} (e : f a c p fs (k (V.G + gm)) cells m i ((V.G + gm, .fresh c') :: gl) (gm + 1) l r ob = some cf) : Snd M R V h₀ d os l r ob cf fun B => GoV M R V h₀ d os B c p fs (.newGen c' k) cells m i gl gm := by
  refine (IH _ _ _ _ _ _ _ _ _ _ _ _ _ _ e).f fun B H h g D E => go_head (fun _ _ x => .newGen x) ?_
  have z := H h _ D (E.new c')
  rw [← E.size] at z
  exact z
theorem ok_handled (IH : RunOk M R V h₀ d os f) {own : Bool} {k : Option PySem.Value → Sem PySem.Fin} (e : f a c p fs (k (hnd own c fs)) cells m i gl gm l r ob = some cf) : Snd M R V h₀ d os l r ob cf fun B => GoV M R V h₀ d os B c p fs (.handled own k) cells m i gl gm := by
  refine (IH _ _ _ _ _ _ _ _ _ _ _ _ _ _ e).f fun B H h g D E => go_head (fun _ _ x => .handled x) ?_
  have z := H h g D E
  cases own <;> exact z
theorem ok_step (IH : RunOk M R V h₀ d os f) (hk : V.kt.Holds h₀ 1 0) (hset : V.set = ⟨M.prog, M.w.params⟩) (hset2 : V.set = V.set1 ∨ V.set = V.set2) (hden : M.den = denF) : RunOk M R V h₀ d os (stepF V f) := by
  run_tac sq0
  (
  intro a c p fs t cells m i gl gm l r ob cf e
  cases t with
  | pure fin =>
    cases fin with
    | done fl => exact ok_pop (res := .ok fl) IH e
    | again c' =>
      replace e : (match quietF c' with | true => f a c' p fs (denF c') cells m i gl gm l r ob | false => none) = some cf := e
      split at e
      · rename_i hq
        refine (IH _ _ _ _ _ _ _ _ _ _ _ _ _ _ e).f fun B H h g D E => go_again (by rw [quietF_eq]; exact hq) ?_
        rw [hden]; exact H h g D E
      · cases e
  | raise x => exact ok_pop (res := .error x) IH e
  | rule tag k => exact (IH _ _ _ _ _ _ _ _ _ _ _ _ _ _ e).f fun B H h g D E => go_head (fun _ _ x => .rule x) (H h g D E)
  | «at» q k => exact (IH _ _ _ _ _ _ _ _ _ _ _ _ _ _ e).f fun B H h g D E => go_head (fun _ _ x => .at x) (H h g D E)
  | point lv k => exact (IH _ _ _ _ _ _ _ _ _ _ _ _ _ _ e).f fun B H h g D E => go_head (fun _ _ x => .point x) (H h g D E)
  | ask k =>
    replace e : (match Nat.mod a 64 with | 0 => f (Nat.div a 64) c p fs (k V.set) cells m i gl gm l r ob | j + 1 => f (Nat.div a 64) c p fs (peekR V j (k V.set1)) cells m i gl gm l r (ob.wd (peekR V j (k V.set1)) (peekE V j (k V.set2)))) = some cf := e
    split at e
    · exact (IH _ _ _ _ _ _ _ _ _ _ _ _ _ _ e).f fun B H h g D E => go_head (fun _ _ x => .ask x) (by rw [← hset]; exact H h g D E)
    · exact ok_ask IH hk hset hset2 e
  | load x part k => exact ok_get IH hk e fun B h g tk o ho H => go_head (fun _ _ y => .load ho y) H
  | loadIfAlive x k => exact ok_get IH hk e fun B h g tk o ho H => go_head (fun _ _ y => .loadIfAlive (by show Runs M _ p (k (h.get? x)) [] _ _ _; rw [ho]; exact y)) H
  | update x part u k => exact ok_upd IH e
  | alloc o k =>
    replace e : (match freedB o with | true => none | false => f a c p fs (k (V.n + m)) ((V.n + m, o) :: cells) (m + 1) i gl gm l r ob) = some cf := e
    split at e
    · cases e
    · rename_i hf; exact ok_alloc IH hk hf e
  | fresh k => exact (IH _ _ _ _ _ _ _ _ _ _ _ _ _ _ e).f fun B H h g D E => go_head (fun _ _ x => .fresh x) (H h g D E)
  | handled own k => exact ok_handled IH e
  | stack k => exact ok_stack IH hk e
  | call c' hd gd lv k =>
    refine (IH _ _ _ _ _ _ _ _ _ _ _ _ _ _ e).f fun B H h g D E => go_call ?_
    rw [hden]; exact H h g D E
  | newGen c' k => exact ok_newGen IH e
  | genState g k => exact ok_gst IH e
  | resume g rs lv k => exact ok_res IH hden e
  | yield v gd lv k => exact ok_yie IH e
  | unsupported | finish | register | choose | os | fork | thread | await => cases e
  )
  run_tac sq
end
theorem run_ok (hk : V.kt.Holds h₀ 1 0) (hset : V.set = ⟨M.prog, M.w.params⟩) (hset2 : V.set = V.set1 ∨ V.set = V.set2) (hden : M.den = denF) : ∀ N : Nat, RunOk M R V h₀ d os (run V N)
  | 0 => fun a c p fs t cells m i gl gm l r ob cf e => by
    cases e
    exact ⟨[], [], rfl, rfl, rfl, fun _ hb => ⟨hb, fun _ H => H⟩⟩
  | N + 1 => ok_step (run_ok hk hset hset2 hden N) hk hset hset2 hden
theorem run_sound (hk : V.kt.Holds h₀ 1 0) (hset : V.set = ⟨M.prog, M.w.params⟩) (hset2 : V.set = V.set1 ∨ V.set = V.set2) (hden : M.den = denF) (N a : Nat) (c : Code) (p : Pos) (fs : List Frame) (t : Sem PySem.Fin) (cells : Cells) (m i : Nat) (gl : GL) (gm : Nat) (l r : List Nat) (ob : Ob) (cf : Cf)
    (e : run V N a c p fs t cells m i gl gm l r ob = some cf) : Snd M R V h₀ d os l r ob cf fun B => GoV M R V h₀ d os B c p fs t cells m i gl gm := run_ok hk hset hset2 hden N a c p fs t cells m i gl gm l r ob cf e
end
end Mine
end -- RN
section -- RK
set_option backward.match.sparseCases false
set_option genSizeOf false
set_option genInjectivity false
open PySem PySem.W PySem.W.X
namespace Mine
noncomputable def lenOf {α : Type} {l : List α} {k : Nat} (_ : l.length ≤ k) : Nat := l.length
noncomputable def selN : Nat → List Nat → Nat
  | _, [] => 0
  | 0, x :: _ => x
  | k + 1, _ :: l => selN k l
inductive SK where
  | func | forL | whileL | call | comp | block | tcall | rcall | bi (id : String) | other
noncomputable def skT (id : String) : List PySem.Value → SK
  | .type _ :: _ => .tcall
  | .ref _ :: _ => .rcall
  | _ => .bi id
noncomputable def skB (id : String) (as : List PySem.Value) : Bool → SK
  | true => skT id as
  | false => .bi id
noncomputable def skOf : Code → SK
  | .func .. => .func
  | .forLoop .. => .forL
  | .whileLoop .. => .whileL
  | .call .. => .call
  | .compLoop (.ListComp ..) .. => .comp
  | .block .. => .block
  | .builtin id a => skB id a.pos (decide (id = "type.__call__"))
  | _ => .other
theorem skT_cases (id : String) (as : List PySem.Value) : (∃ n r, as = .type n :: r) ∨ (∃ n r, as = .ref n :: r) ∨ skT id as = .bi id := by
  rcases as with _ | ⟨v, r⟩
  · exact .inr (.inr rfl)
  · cases v <;> first | exact .inl ⟨_, _, rfl⟩ | exact .inr (.inl ⟨_, _, rfl⟩) | exact .inr (.inr rfl)
noncomputable def shape (B : List (Code × Pos)) : List SK := B.map fun x => skOf x.1
theorem map_nil {α β : Type} {f : α → β} {l : List α} (h : l.map f = []) : l = [] := by cases l <;> simp_all
theorem map_cons {α β : Type} {f : α → β} {l : List α} {b : β} {r : List β} (h : l.map f = b :: r) : ∃ a l', l = a :: l' ∧ f a = b ∧ l'.map f = r := by
  cases l with
  | nil => simp at h
  | cons a l => simp at h; exact ⟨a, l, rfl, h.1, h.2⟩
structure Junk where
  q : Pos
  v2 : PySem.Value
  gs : List Comprehension
  sc : Scope
  b : List Stmt
  b2 : List Stmt
  e : Env
  ex : Expr
  v : PySem.Value
  a : Args
  p : Pos
  n : String
  na : Addr
  r : List PySem.Value
  kw : List (Str × PySem.Value)
noncomputable def canonC (j : Junk) : SK → Code
  | .func => .func j.b j.e
  | .forL => .forLoop j.ex j.v j.b j.b2 j.e
  | .whileL => .whileLoop j.ex j.b j.b2 j.e
  | .call => .call j.v j.a
  | .block => .block j.b j.e
  | .comp => .compLoop (.ListComp j.ex j.gs j.sc j.q) j.na j.v j.v2 j.e
  | .tcall => .builtin "type.__call__" ⟨.type j.n :: j.r, j.kw⟩
  | .rcall => .builtin "type.__call__" ⟨.ref j.na :: j.r, j.kw⟩
  | .bi id => .builtin id j.a
  | _ => .block j.b j.e
noncomputable def canon : List SK → (Nat → Junk) → List (Code × Pos)
  | [], _ => []
  | k :: S, J => (canonC (J 0) k, (J 0).p) :: canon S fun i => J (i + 1)
noncomputable def skOk : SK → Bool
  | .other => false
  | _ => true
theorem canonC_of {c : Code} (p : Pos) {k : SK} (h : skOf c = k) (hk : skOk k = true) : ∃ j : Junk, c = canonC j k ∧ j.p = p := by
  subst h
  cases c
  case builtin id a =>
    show ∃ j : Junk, Code.builtin id a = canonC j (skB id a.pos (decide (id = "type.__call__"))) ∧ j.p = p
    cases hid : decide (id = "type.__call__") with
    | false => exact ⟨⟨default, default, [], default, [], [], default, default, default, a, p, "", 0, [], []⟩, rfl, rfl⟩
    | true =>
      have hid := of_decide_eq_true hid
      obtain ⟨as, kw⟩ := a
      show ∃ j : Junk, Code.builtin id ⟨as, kw⟩ = canonC j (skT id as) ∧ j.p = p
      rcases skT_cases id as with ⟨n, r, rfl⟩ | ⟨n, r, rfl⟩ | e
      · exact ⟨⟨default, default, [], default, [], [], default, default, default, default, p, n, 0, r, kw⟩, by rw [hid]; rfl, rfl⟩
      · exact ⟨⟨default, default, [], default, [], [], default, default, default, default, p, "", n, r, kw⟩, by rw [hid]; rfl, rfl⟩
      · rw [e]; exact ⟨⟨default, default, [], default, [], [], default, default, default, ⟨as, kw⟩, p, "", 0, [], []⟩, rfl, rfl⟩
  case compLoop x i v acc e =>
    cases x
    case ListComp el gs sc q => exact ⟨⟨q, acc, gs, sc, [], [], e, el, v, default, p, "", i, [], []⟩, rfl, rfl⟩
    all_goals exact (Bool.false_ne_true hk).elim
  case block b e => exact ⟨⟨default, default, [], default, b, [], e, default, default, default, p, "", 0, [], []⟩, rfl, rfl⟩
  case call f a => exact ⟨⟨default, default, [], default, [], [], default, default, f, a, p, "", 0, [], []⟩, rfl, rfl⟩
  case func b e => exact ⟨⟨default, default, [], default, b, [], e, default, default, default, p, "", 0, [], []⟩, rfl, rfl⟩
  case whileLoop x b b2 e => exact ⟨⟨default, default, [], default, b, b2, e, x, default, default, p, "", 0, [], []⟩, rfl, rfl⟩
  case forLoop x v b b2 e => exact ⟨⟨default, default, [], default, b, b2, e, x, v, default, p, "", 0, [], []⟩, rfl, rfl⟩
  all_goals exact (Bool.false_ne_true hk).elim
noncomputable def ids : List String := ["claim.caller", "callable_iterator.__next__", "str.join", "len", "str.__new__", "sum", "list.__iadd__"]
noncomputable def idN (id : String) : List String → Nat → Nat
  | [], _ => 99
  | x :: l, k => match decide (id = x) with
    | true => k
    | false => idN id l (k + 1)
noncomputable def skNT : List PySem.Value → Nat
  | .type _ :: _ => 49
  | .ref _ :: _ => 48
  | _ => 99
noncomputable def skNB (id : String) (as : List PySem.Value) : Bool → Nat
  | true => skNT as
  | false => idN id ids 3
noncomputable def skN : Code → Nat
  | .func .. => 0
  | .forLoop .. => 1
  | .whileLoop .. => 2
  | .compLoop (.ListComp ..) .. => 47
  | .block .. => 46
  | .builtin id a => skNB id a.pos (decide (id = "type.__call__"))
  | _ => 99
noncomputable def shN : List (Code × Pos) → List Nat
  | [] => []
  | q :: B => skN q.1 :: shN B
noncomputable def nlEq : List Nat → List Nat → Bool
  | [], [] => true
  | a :: l, b :: r => match Nat.beq a b with
    | true => nlEq l r
    | false => false
  | _, _ => false
theorem nlEq_eq : ∀ {a b : List Nat}, nlEq a b = true → a = b
  | [], [], _ => rfl
  | [], _ :: _, h => by cases h
  | _ :: _, [], h => by cases h
  | x :: a, y :: b, h => by
    unfold nlEq at h
    split at h
    · rename_i e; rw [Nat.eq_of_beq_eq_true e, nlEq_eq h]
    · cases h
noncomputable def isAny : List Nat → Bool
  | [] => false
  | a :: _ => Nat.beq a 1000
noncomputable abbrev anySh : List (List Nat) := [[1000]]
noncomputable def okB (Ss : List (List Nat)) (B : List (Code × Pos)) : Bool := match Ss with
  | [] => false
  | S :: Ss => match isAny S with
    | true => true
    | false => match nlEq (shN B) S with
      | true => true
      | false => okB Ss B
noncomputable def idAt : List String → Nat → SK
  | [], _ => .other
  | x :: l, n => match n with
    | 0 => .bi x
    | n + 1 => idAt l n
noncomputable def skK : Nat → SK
  | 0 => .func
  | 1 => .forL
  | 2 => .whileL
  | n + 3 => match Nat.beq n 46 with
    | true => .tcall
    | false => match Nat.beq n 45 with
      | true => .rcall
      | false => match Nat.beq n 44 with
        | true => .comp
        | false => match Nat.beq n 43 with
          | true => .block
          | false => idAt ids n
theorem idN_at {id : String} : ∀ {l : List String} {k n : Nat}, idN id l k = n → n < 50 → ∃ j, n = k + j ∧ idAt l j = .bi id
  | [], _, _, h, hn => by unfold idN at h; (run_tac om)
  | x :: l, k, n, h, hn => by
    unfold idN at h
    split at h
    · rename_i e
      have e := of_decide_eq_true e
      subst e h
      exact ⟨0, rfl, rfl⟩
    · obtain ⟨j, e1, e2⟩ := idN_at h hn
      exact ⟨j + 1, by (run_tac om), e2⟩
noncomputable def skL : List Nat → List SK
  | [] => []
  | n :: l => skK n :: skL l
noncomputable def skF : List Nat → Bool
  | [] => true
  | n :: l => match Nat.blt n 50 with
    | true => skF l
    | false => false
theorem sh_of : ∀ {S : List Nat} {B : List (Code × Pos)}, shN B = S → skF S = true → ∃ J, B = canon (skL S) J
  | [], B, h, _ => by cases B with
    | nil => exact ⟨fun _ => ⟨default, default, [], default, [], [], default, default, default, default, default, "", 0, [], []⟩, rfl⟩
    | cons => cases h
  | k :: S, B, h, ok => by
    cases B with
    | nil => cases h
    | cons q B =>
      obtain ⟨c, p⟩ := q
      have h' : skN c :: shN B = k :: S := h
      rw [List.cons.injEq] at h'
      obtain ⟨h1, h2⟩ := h'
      unfold skF at ok
      split at ok
      · rename_i hk
        obtain ⟨J, rfl⟩ := sh_of h2 ok
        have h3 : skOf c = skK k ∧ skOk (skK k) = true := by
          subst h1
          cases c
          case builtin id a =>
            change Nat.blt (skNB id a.pos (decide (id = "type.__call__"))) 50 = true at hk
            show skB id a.pos (decide (id = "type.__call__")) = skK (skNB id a.pos (decide (id = "type.__call__"))) ∧ skOk (skK (skNB id a.pos (decide (id = "type.__call__")))) = true
            cases hid : decide (id = "type.__call__") with
            | false =>
              rw [hid] at hk
              have hk' : idN id ids 3 < 50 := Nat.le_of_ble_eq_true hk
              obtain ⟨j, e1, e2⟩ := idN_at (id := id) (l := ids) (k := 3) rfl hk'
              have ej : j < 40 := by
                have : j < ids.length := by
                  by_cases hj : j < ids.length
                  · exact hj
                  · exfalso
                    have : ∀ (l : List String) (j : Nat), ¬ j < l.length → idAt l j ≠ .bi id := by
                      intro l
                      induction l with
                      | nil => intro j _ h; cases h
                      | cons x l ih => intro j hj; cases j with
                        | zero => simp at hj
                        | succ j => exact ih j (by simpa using hj)
                    exact this _ _ hj e2
                have : ids.length = 7 := rfl
                (run_tac om)
              have e3 : skK (idN id ids 3) = .bi id := by
                rw [e1, Nat.add_comm]
                show (match Nat.beq j 46 with | true => SK.tcall | false => match Nat.beq j 45 with | true => SK.rcall | false => match Nat.beq j 44 with | true => SK.comp | false => match Nat.beq j 43 with | true => SK.block | false => idAt ids j) = _
                cases hb : Nat.beq j 46 with
                | true => have := Nat.eq_of_beq_eq_true hb; (run_tac om)
                | false =>
                  cases hb2 : Nat.beq j 45 with
                  | true => have := Nat.eq_of_beq_eq_true hb2; (run_tac om)
                  | false =>
                    cases hb3 : Nat.beq j 44 with
                    | true => have := Nat.eq_of_beq_eq_true hb3; (run_tac om)
                    | false =>
                      cases hb4 : Nat.beq j 43 with
                      | true => have := Nat.eq_of_beq_eq_true hb4; (run_tac om)
                      | false => exact e2
              show SK.bi id = skK (idN id ids 3) ∧ skOk (skK (idN id ids 3)) = true
              rw [e3]
              exact ⟨rfl, rfl⟩
            | true =>
              rw [hid] at hk
              obtain ⟨as, kw⟩ := a
              rcases skT_cases id as with ⟨n, r, rfl⟩ | ⟨n, r, rfl⟩ | e
              · exact ⟨rfl, rfl⟩
              · exact ⟨rfl, rfl⟩
              · exfalso
                have h99 : skNT as = 99 := by
                  rcases as with _ | ⟨v, r⟩
                  · rfl
                  · cases v <;> first | rfl | (cases e; done)
                change Nat.blt (skNT as) 50 = true at hk
                rw [h99] at hk
                exact absurd hk (by decide)
          case compLoop x _ _ _ _ => cases x <;> first
            | exact ⟨rfl, rfl⟩
            | exact (Bool.false_ne_true hk).elim
          all_goals first
            | exact ⟨rfl, rfl⟩
            | exact (Bool.false_ne_true hk).elim
        obtain ⟨j, rfl, rfl⟩ := canonC_of p h3.1 h3.2
        exact ⟨fun | 0 => j | i + 1 => J i, rfl⟩
      · cases ok
theorem skF_any {S : List Nat} (h : skF S = true) : isAny S = false := by
  run_tac sq0
  (
  cases S with
  | nil => rfl
  | cons a l =>
    unfold skF at h
    split at h
    · rename_i e
      have := Nat.le_of_ble_eq_true e
      show Nat.beq a 1000 = false
      cases hb : Nat.beq a 1000 with
      | false => rfl
      | true => have := Nat.eq_of_beq_eq_true hb; (run_tac om)
    · cases h
  )
  run_tac sq
theorem okB_inv {Ss : List (List Nat)} {B : List (Code × Pos)} (h : okB Ss B = true) (hs : Ss.all skF = true) : ∃ S ∈ Ss, ∃ J, B = canon (skL S) J := by
  run_tac sq0
  (
  induction Ss with
  | nil => cases h
  | cons S Ss ih =>
    rw [List.all_cons, Bool.and_eq_true] at hs
    unfold okB at h
    rw [skF_any hs.1] at h
    dsimp only at h
    split at h
    · rename_i e
      obtain ⟨J, hJ⟩ := sh_of (nlEq_eq e) hs.1
      exact ⟨S, .head _, J, hJ⟩
    · obtain ⟨S', h1, h2⟩ := ih h hs.2
      exact ⟨S', .tail _ h1, h2⟩
  )
  run_tac sq
noncomputable def junk0 : Junk := ⟨default, default, [], default, [], [], default, default, default, default, default, "", 0, [], []⟩
noncomputable def rep : List (List Nat) → List (Code × Pos)
  | [] => []
  | S :: _ => canon (skL S) (fun _ => junk0)
noncomputable def allF : List (List Nat) → Bool
  | [] => true
  | S :: Ss => match skF S with
    | true => allF Ss
    | false => false
theorem allF_all : ∀ {Ss : List (List Nat)}, allF Ss = true → Ss.all skF = true
  | [], _ => rfl
  | S :: Ss, h => by
    unfold allF at h
    split at h
    · rename_i e
      rw [List.all_cons, e, allF_all h]; rfl
    · cases h
noncomputable def obE : List (List Nat) → Ob → (Nat → Junk) → List (List (Sem PySem.Fin))
  | [], _, _ => []
  | S :: Ss, ob, J => apB ob.ol (canon (skL S) J) :: obE Ss ob J
noncomputable def obR : List (List Nat) → Ob → List (List (Sem PySem.Fin))
  | [], _ => []
  | _ :: Ss, ob => ob.or :: obR Ss ob
theorem obE_ok {ob : Ob} {J : Nat → Junk} : ∀ {Ss : List (List Nat)}, obE Ss ob J = obR Ss ob → ∀ S ∈ Ss, apB ob.ol (canon (skL S) J) = ob.or
  | S :: Ss, h, S', hS => by
    obtain ⟨h1, h2⟩ := List.cons.inj h
    rcases List.mem_cons.mp hS with rfl | hS
    · exact h1
    · exact obE_ok h2 S' hS
noncomputable def ol0 (Ss : List (List Nat)) (ob : Ob) : Bool := match ob.ol with
  | [] => (match ob.or with
    | [] => true
    | _ => false)
  | _ => allF Ss
theorem ob_ok {Ss : List (List Nat)} {ob : Ob} (hf : ol0 Ss ob = true) (h : ∀ J, obE Ss ob J = obR Ss ob) (hw : ob.wl = ob.wr) {B : List (Code × Pos)} (hB : okB Ss B = true) : ob.ok B := by
  unfold ol0 at hf
  split at hf
  · rename_i e
    split at hf
    · rename_i e2
      refine ⟨?_, hw⟩
      rw [e, e2]; rfl
    · cases hf
  obtain ⟨S, hS, J, rfl⟩ := okB_inv hB (allF_all hf)
  exact ⟨obE_ok (h J) S hS, hw⟩
noncomputable def inSh : List (List Nat) → List Nat → Bool
  | [], _ => false
  | S :: Ss, x => match isAny S with
    | true => true
    | false => match nlEq x S with
      | true => true
      | false => inSh Ss x
theorem okB_inSh : ∀ {Ss : List (List Nat)} {B : List (Code × Pos)}, okB Ss B = inSh Ss (shN B)
  | [], _ => rfl
  | S :: Ss, B => by
    unfold okB inSh
    rw [okB_inSh (Ss := Ss)]
noncomputable def hasAny : List (List Nat) → Bool
  | [] => false
  | S :: Ss => match isAny S with
    | true => true
    | false => hasAny Ss
theorem hasAny_in {x : List Nat} : ∀ {Ss : List (List Nat)}, hasAny Ss = true → inSh Ss x = true
  | S :: Ss, h => by
    unfold hasAny at h
    unfold inSh
    cases e : isAny S with
    | true => rfl
    | false =>
      rw [e] at h
      dsimp only
      rw [hasAny_in h]
      split <;> rfl
noncomputable def appN : List Nat → List Nat → List Nat
  | [], y => y
  | a :: x, y => a :: appN x y
noncomputable def subSh (pre : List Nat) : List (List Nat) → List (List Nat) → Bool
  | [], _ => true
  | S :: Ss0, Ss => match isAny S with
    | true => (match hasAny Ss with
      | true => subSh pre Ss0 Ss
      | false => false)
    | false => (match inSh Ss (appN pre S) with
      | true => subSh pre Ss0 Ss
      | false => false)
theorem subSh_mem {pre : List Nat} : ∀ {Ss0 Ss : List (List Nat)}, subSh pre Ss0 Ss = true → ∀ S ∈ Ss0, (isAny S = true ∧ hasAny Ss = true) ∨ (isAny S = false ∧ inSh Ss (appN pre S) = true)
  | S :: Ss0, Ss, h, S', hS => by
    unfold subSh at h
    split at h
    · rename_i e0
      split at h
      · rename_i e
        rcases List.mem_cons.mp hS with rfl | hS
        · exact .inl ⟨e0, e⟩
        · exact subSh_mem h S' hS
      · cases h
    · rename_i e0
      split at h
      · rename_i e
        rcases List.mem_cons.mp hS with rfl | hS
        · exact .inr ⟨e0, e⟩
        · exact subSh_mem h S' hS
      · cases h
theorem okB_mem : ∀ {Ss : List (List Nat)} {B : List (Code × Pos)}, okB Ss B = true → ∃ S ∈ Ss, isAny S = true ∨ (isAny S = false ∧ shN B = S)
  | [], _, h => by cases h
  | S :: Ss, B, h => by
    unfold okB at h
    split at h
    · rename_i e; exact ⟨S, .head _, .inl e⟩
    · rename_i e0
      split at h
      · rename_i e; exact ⟨S, .head _, .inr ⟨e0, nlEq_eq e⟩⟩
      · obtain ⟨S', h1, h2⟩ := okB_mem h; exact ⟨S', .tail _ h1, h2⟩
noncomputable def preF : List Frame → List Nat
  | [] => []
  | f :: fs => skN f.where_.1 :: preF fs
theorem shN_where : ∀ (fs : List Frame) (B : List (Code × Pos)), shN (whereF fs B) = appN (preF fs) (shN B)
  | [], _ => rfl
  | f :: fs, B => by show skN f.where_.1 :: shN (whereF fs B) = _; rw [shN_where fs B]; rfl
theorem okB_pre {Ss0 Ss : List (List Nat)} {pre : List Nat} {B B' : List (Code × Pos)} (hB : okB Ss0 B = true) (h : subSh pre Ss0 Ss = true) (e : shN B' = appN pre (shN B)) : okB Ss B' = true := by
  obtain ⟨S, hS, h1⟩ := okB_mem hB
  rw [okB_inSh]
  rcases subSh_mem h S hS with ⟨h2, h3⟩ | ⟨h2, h3⟩
  · exact hasAny_in h3
  · rcases h1 with h1 | ⟨_, h1⟩
    · rw [h1] at h2; cases h2
    · rw [e, h1]; exact h3
theorem okB_where {Ss0 Ss : List (List Nat)} {fs : List Frame} {B : List (Code × Pos)} (hB : okB Ss0 B = true) (h : subSh (preF fs) Ss0 Ss = true) : okB Ss (whereF fs B) = true :=
  okB_pre hB h (shN_where fs B)
theorem okB_stk {Ss0 Ss : List (List Nat)} {c : Code} {p : Pos} {fs : List Frame} {B : List (Code × Pos)} (hB : okB Ss0 B = true) (h : subSh (skN c :: preF fs) Ss0 Ss = true) : okB Ss (stk c p fs B) = true :=
  okB_pre hB h (by show skN c :: shN (whereF fs B) = _; rw [shN_where]; rfl)
inductive Fam where
  | sh (Ss : List (List Nat))
  | one (B : List (Code × Pos))
noncomputable def Fam.has : Fam → List (Code × Pos) → Prop
  | .sh Ss, B => okB Ss B = true
  | .one B0, B => B = B0
noncomputable def Fam.rep : Fam → List (Code × Pos)
  | .sh Ss => Mine.rep Ss
  | .one B => B
noncomputable def Fam.obE (F : Fam) (ob : Ob) (J : Nat → Junk) : Bool × List (List (Sem PySem.Fin)) := match F with
  | .sh Ss => (ol0 Ss ob, Mine.obE Ss ob J)
  | .one B => (true, [apB ob.ol B])
noncomputable def Fam.obR (F : Fam) (ob : Ob) : Bool × List (List (Sem PySem.Fin)) := match F with
  | .sh Ss => (true, Mine.obR Ss ob)
  | .one _ => (true, [ob.or])
noncomputable def Fam.sub (F : Fam) (pre : List Nat) (f : List (Code × Pos) → List (Code × Pos)) (Ss : List (List Nat)) : Bool := match F with
  | .sh Ss0 => subSh pre Ss0 Ss
  | .one B => okB Ss (f B)
theorem Fam.ob_ok {F : Fam} {ob : Ob} (h : ∀ J, F.obE ob J = F.obR ob) (hw : ob.wl = ob.wr) {B : List (Code × Pos)} (hB : F.has B) : ob.ok B := by
  cases F with
  | sh Ss => exact Mine.ob_ok (Prod.ext_iff.mp (h (fun _ => junk0))).1 (fun J => (Prod.ext_iff.mp (h J)).2) hw hB
  | one B0 =>
    cases hB
    exact ⟨(List.cons.inj (Prod.ext_iff.mp (h (fun _ => junk0))).2).1, hw⟩
theorem Fam.sub_where {F : Fam} {fs : List Frame} {Ss : List (List Nat)} (h : F.sub (preF fs) (whereF fs) Ss = true) {B : List (Code × Pos)} (hB : F.has B) : okB Ss (whereF fs B) = true := by
  cases F with
  | sh Ss0 => exact okB_where hB h
  | one B0 => cases hB; exact h
theorem Fam.sub_stk {F : Fam} {c : Code} {p : Pos} {fs : List Frame} {Ss : List (List Nat)} (h : F.sub (skN c :: preF fs) (stk c p fs) Ss = true) {B : List (Code × Pos)} (hB : F.has B) : okB Ss (stk c p fs B) = true := by
  cases F with
  | sh Ss0 => exact okB_stk hB h
  | one B0 => cases hB; exact h
end Mine
end -- RK
section -- RO
set_option backward.match.sparseCases false
set_option genSizeOf false
set_option genInjectivity false
open PySem PySem.W PySem.W.X
namespace Mine
noncomputable def runS (V : MV) (N a : Nat) (st : Cf) : Cf :=
  match run V N a st.c st.p st.fs st.t st.cells st.m st.i st.gl st.gm [] [] ob0 with
  | some cf => cf
  | none => ⟨st.c, st.p, st.fs, .unsupported "", st.cells, st.m, st.i, st.gl, st.gm, [0], [], ob0⟩
structure Cx where
  prog : Program
  w : World
  h₀ : Heap
  kt : KT
  tabs : List Nat
  N0 : Nat
  T0 : Nat
  d : Drawn
  os : OsState
  s1 : Setting
  s2 : Setting
  hs : (⟨prog, w.params⟩ : Setting) = s1 ∨ (⟨prog, w.params⟩ : Setting) = s2
  hk : kt.Holds h₀ 1 0
  hN : h₀.objs.size ≤ N0
noncomputable abbrev Cx.M (C : Cx) : Model := model C.prog C.w
theorem Cx.hden (C : Cx) : C.M.den = denF := denF_eq
noncomputable def Cx.mv (C : Cx) (F : Fam) (n t G : Nat) : MV := ⟨⟨C.prog, C.w.params⟩, C.s1, C.s2, C.kt, C.tabs, n + C.N0, t + C.T0, G, F.rep⟩
structure HS where
  cells : Cells
  gl : GL
noncomputable def GoS (C : Cx) (R : Result → Shared → Prop) (B : List (Code × Pos)) (n t G : Nat) (st : Cf) : Prop :=
  GoV C.M R (C.mv (.sh []) n t G) C.h₀ C.d C.os B st.c st.p st.fs st.t st.cells st.m st.i st.gl st.gm
section
variable {C : Cx} {R : Result → Shared → Prop} {B : List (Code × Pos)} {n t G : Nat} {st : Cf}
theorem gos_run (F : Fam) (N a : Nat) (e : (runS (C.mv F n t G) N a st).l = (runS (C.mv F n t G) N a st).r) (hb : (runS (C.mv F n t G) N a st).ob.ok B) (H : GoS C R B n t G (runS (C.mv F n t G) N a st)) : GoS C R B n t G st := by
  run_tac sq0
  unfold runS at e H hb
  split at e
  · rename_i cf hr
    rw [hr] at H hb
    obtain ⟨l', r', h1, h2, h3, h4⟩ := run_sound (M := C.M) (R := R) (d := C.d) (os := C.os) (h₀ := C.h₀) (V := C.mv F n t G) C.hk rfl C.hs C.hden N a _ _ _ _ _ _ _ _ _ _ _ _ cf hr
    rw [List.append_nil] at h1 h2
    exact (h4 B hb).2 (by rw [← h1, ← h2]; exact e) H
  · cases e
  run_tac sq
end
noncomputable def pick {α : Type} (cells : List (Nat × α)) : List Nat → Nat → List (Nat × α)
  | [], k => cells.drop k
  | j :: js, k => match cellAt cells j with
    | some q => q :: pick cells js k
    | none => pick cells js k
noncomputable def hasN : List Nat → Nat → Bool := inTabs
noncomputable def nodupN : List Nat → Bool
  | [] => true
  | j :: js => match hasN js j with
    | true => false
    | false => nodupN js
noncomputable def belowN (k : Nat) : List Nat → Bool
  | [] => true
  | j :: js => match Nat.blt j k with
    | true => belowN k js
    | false => false
noncomputable def dropOk {α : Type} (ok : Nat × α → Bool) (js : List Nat) : Nat → List (Nat × α) → Nat → Bool
  | 0, _, _ => true
  | k + 1, l, j => match l with
    | [] => true
    | q :: l => match hasN js j with
      | true => dropOk ok js k l (j + 1)
      | false => match ok q with
        | false => false
        | true => dropOk ok js k l (j + 1)
noncomputable def pickOk {α : Type} (ok : Nat × α → Bool) (cells : List (Nat × α)) (js : List Nat) (k : Nat) : Bool := match nodupN js with
  | true => match belowN k js with
    | true => dropOk ok js k cells 0
    | false => false
  | false => false
noncomputable def okCell (tabs : List Nat) (q : Addr × Obj) : Bool := match inTabs tabs q.1 with
  | true => false
  | false => true
noncomputable def okGen (q : Nat × GenState) : Bool := q.2.bare
theorem cellAt_eq {α : Type} : ∀ (l : List (Nat × α)) (i : Nat), cellAt l i = l[i]?
  | [], i => by simp [cellAt]
  | q :: l, 0 => by simp [cellAt]
  | q :: l, i + 1 => by
    unfold cellAt
    have : Nat.beq (i + 1) 0 = false := rfl
    rw [this]
    show cellAt l (Nat.sub (i + 1) 1) = _
    rw [cellAt_eq]
    simp
section
variable {α : Type} {l : List (Nat × α)} {k : Nat} {q : Nat × α}
theorem pick_mem : ∀ {js : List Nat}, q ∈ pick l js k → (∃ j ∈ js, l[j]? = some q) ∨ q ∈ l.drop k
  | [], h => .inr h
  | j :: js, h => by
    unfold pick at h
    split at h
    · rename_i q' e
      rcases List.mem_cons.mp h with rfl | h
      · exact .inl ⟨j, .head _, by rw [← cellAt_eq]; exact e⟩
      · rcases pick_mem h with ⟨i, hi, e'⟩ | h
        · exact .inl ⟨i, .tail _ hi, e'⟩
        · exact .inr h
    · rcases pick_mem h with ⟨i, hi, e'⟩ | h
      · exact .inl ⟨i, .tail _ hi, e'⟩
      · exact .inr h
theorem pick_has : ∀ {js : List Nat} {j : Nat}, j ∈ js → l[j]? = some q → q ∈ pick l js k
  | j' :: js, j, hj, e => by
    unfold pick
    rcases List.mem_cons.mp hj with rfl | hj
    · rw [cellAt_eq, e]; exact .head _
    · split
      · exact .tail _ (pick_has hj e)
      · exact pick_has hj e
theorem pick_drop (h : q ∈ l.drop k) : ∀ {js : List Nat}, q ∈ pick l js k
  | [] => h
  | j :: js => by
    unfold pick
    split
    · exact .tail _ (pick_drop h)
    · exact pick_drop h
theorem key_index (hn : (l.map (·.1)).Nodup) {i j : Nat} {q q' : Nat × α} (hi : l[i]? = some q) (hj : l[j]? = some q') (e : q.1 = q'.1) : i = j := by
  run_tac sq0
  have h1 : (l.map (·.1))[i]? = some q.1 := by rw [List.getElem?_map, hi]; rfl
  have h2 : (l.map (·.1))[j]? = some q.1 := by rw [List.getElem?_map, hj, e]; rfl
  obtain ⟨l1, e1⟩ := List.getElem?_eq_some_iff.mp h1
  obtain ⟨l2, e2⟩ := List.getElem?_eq_some_iff.mp h2
  rcases Nat.lt_trichotomy i j with z | z | z
  · exact absurd (e1.trans e2.symm) (List.pairwise_iff_getElem.mp hn i j l1 l2 z)
  · exact z
  · exact absurd (e2.trans e1.symm) (List.pairwise_iff_getElem.mp hn j i l2 l1 z)
  run_tac sq
theorem nodupN_iff : ∀ {js : List Nat}, nodupN js = true → js.Nodup
  | [], _ => List.nodup_nil
  | j :: js, h => by
    unfold nodupN at h
    split at h
    · cases h
    · rename_i e
      exact List.nodup_cons.mpr ⟨fun hm => (by rw [hasN, inTabs_iff.mpr hm] at e; cases e), nodupN_iff h⟩
theorem belowN_iff : ∀ {js : List Nat}, belowN k js = true → ∀ j ∈ js, j < k
  | j :: js, h, i, hi => by
    unfold belowN at h
    split at h
    · rename_i e
      rcases List.mem_cons.mp hi with rfl | hi
      · exact Nat.le_of_ble_eq_true e
      · exact belowN_iff h i hi
    · cases h
theorem drop_index (h : q ∈ l.drop k) : ∃ i, k ≤ i ∧ l[i]? = some q := by
  obtain ⟨i, hi, e⟩ := List.mem_iff_getElem.mp h
  refine ⟨k + i, Nat.le_add_right .., ?_⟩
  rw [← e, ← List.getElem?_drop]
  exact List.getElem?_eq_getElem hi
theorem pick_nodup (hn : (l.map (·.1)).Nodup) : ∀ {js : List Nat}, js.Nodup → (∀ j ∈ js, j < k) → ((pick l js k).map (·.1)).Nodup
  | [], _, _ => by
    show ((l.drop k).map (·.1)).Nodup
    rw [List.map_drop]
    exact hn.sublist (List.drop_sublist ..)
  | j :: js, hj, hb => by
    unfold pick
    have IH := pick_nodup hn (List.nodup_cons.mp hj).2 fun i hi => hb i (.tail _ hi)
    split
    · rename_i q e
      rw [cellAt_eq] at e
      rw [List.map_cons, List.nodup_cons]
      refine ⟨fun hm => ?_, IH⟩
      obtain ⟨x, hx, ex⟩ := List.mem_map.mp hm
      rcases pick_mem hx with ⟨i, hi, e'⟩ | hx
      · have := key_index hn e e' ex.symm
        subst this
        exact (List.nodup_cons.mp hj).1 hi
      · obtain ⟨i, hi, e'⟩ := drop_index hx
        have := key_index hn e e' ex.symm
        have := hb j (.head _)
        (run_tac om)
    · exact IH
theorem dropOk_iff {ok : Nat × α → Bool} {js : List Nat} : ∀ {k : Nat} {l : List (Nat × α)} {j : Nat}, dropOk ok js k l j = true → ∀ i q, i < k → l[i]? = some q → (j + i) ∈ js ∨ ok q = true
  | 0, _, _, _, i, q, hi, _ => by (run_tac om)
  | k + 1, [], _, _, i, q, _, e => by simp at e
  | k + 1, x :: l, j, h, i, q, hi, e => by
    unfold dropOk at h
    dsimp only at h
    cases i with
    | zero =>
      simp at e
      subst e
      split at h
      · rename_i hh; exact .inl (inTabs_iff.mp hh)
      · split at h
        · cases h
        · rename_i hh; exact .inr hh
    | succ i =>
      simp at e
      have key : dropOk ok js k l (j + 1) = true := by
        split at h
        · exact h
        · split at h
          · cases h
          · exact h
      rcases dropOk_iff key i q (by (run_tac om)) e with z | z
      · left; rw [show j + (i + 1) = j + 1 + i by (run_tac om)]; exact z
      · exact .inr z
theorem pick_facts {ok : Nat × α → Bool} (hn : (l.map (·.1)).Nodup) {js : List Nat} (e : pickOk ok l js k = true) : ((pick l js k).map (·.1)).Nodup ∧ (∀ q ∈ pick l js k, q ∈ l) ∧ (∀ q ∈ l, q ∈ pick l js k ∨ ok q = true) := by
  run_tac sq0
  unfold pickOk at e
  split at e
  · rename_i e1
    split at e
    · rename_i e2
      have hj := nodupN_iff e1
      have hb := belowN_iff e2
      refine ⟨pick_nodup hn hj hb, fun q hq => ?_, fun q hq => ?_⟩
      · rcases pick_mem hq with ⟨j, _, e'⟩ | hq
        · exact List.mem_of_getElem? e'
        · exact List.mem_of_mem_drop hq
      · obtain ⟨i, hi⟩ := List.mem_iff_getElem?.mp hq
        by_cases hik : i < k
        · rcases dropOk_iff e i q hik hi with y | y
          · rw [Nat.zero_add] at y
            exact .inl (pick_has y hi)
          · exact .inr y
        · left
          refine pick_drop ?_
          rw [List.mem_iff_getElem?]
          exact ⟨i - k, by rw [List.getElem?_drop, show k + (i - k) = i by (run_tac om)]; exact hi⟩
    · cases e
  · cases e
  run_tac sq
end
theorem Rep.sub {h₀ h : Heap} {kt : KT} {tabs : List Nat} {n m : Nat} {cells cells' : Cells} (D : Rep h₀ kt tabs n h cells m) (hn : (cells'.map (·.1)).Nodup) (hs : ∀ q ∈ cells', q ∈ cells) (ht : ∀ q ∈ cells, q ∈ cells' ∨ okCell tabs q = true) : Rep h₀ kt tabs (n + m) h cells' 0 := by
  run_tac sq0
  refine ⟨D.size, by have := D.base; (run_tac om), fun b o hb' hx => ?_, fun q hq => D.own q (hs q hq), hn, fun q hq => D.off q (hs q hq)⟩
  by_cases hx' : ∃ q ∈ cells, q.1 = b
  · obtain ⟨q, hq, rfl⟩ := hx'
    rcases D.off q hq with z | z
    · rw [hb'] at z; cases z
    · rcases ht q hq with y | y
      · exact absurd rfl (hx q y)
      · unfold okCell at y
        rw [inTabs_iff.mpr z] at y; cases y
  · exact D.keep b o hb' fun q hq hqb => hx' ⟨q, hq, hqb⟩
  run_tac sq
theorem RepG.sub {g : Array GenState} {G gm : Nat} {gl gl' : GL} (D : RepG g G gm gl) (hn : (gl'.map (·.1)).Nodup) (hs : ∀ q ∈ gl', q ∈ gl) (ht : ∀ q ∈ gl, q ∈ gl' ∨ okGen q = true) : RepG g (G + gm) 0 gl' := by
  run_tac sq0
  refine ⟨D.size, fun q hq => D.own q (hs q hq), hn, fun j x hx hj => ?_⟩
  by_cases hx' : ∃ q ∈ gl, q.1 = j
  · obtain ⟨q, hq, rfl⟩ := hx'
    have := D.own q hq
    rw [hx] at this
    cases this
    rcases ht q hq with y | y
    · exact absurd rfl (hj q y)
    · exact y
  · exact D.bare j x hx fun q hq hqb => hx' ⟨q, hq, hqb⟩
  run_tac sq
noncomputable def Post (C : Cx) (Q : Result → HS → Prop) (r : Result) (s' : Shared) : Prop :=
  ∃ n t G h g H, s' = ⟨h, g, C.d, t + C.T0, C.os⟩ ∧ Rep C.h₀ C.kt C.tabs (n + C.N0) h (HS.cells H) 0 ∧ RepG g G 0 H.gl ∧ Q r H
noncomputable def Ctr (C : Cx) (Γ : Ctx) (p : Pos) (H : HS) (Q : Result → HS → Prop) : Prop :=
  ∀ n t G h g, Rep C.h₀ C.kt C.tabs (n + C.N0) h H.cells 0 → RepG g G 0 H.gl → wpCode C.M Γ (Post C Q) p ⟨h, g, C.d, t + C.T0, C.os⟩
noncomputable def startS (c : Code) (p : Pos) (H : HS) : Cf := ⟨c, p, [], denF c, H.cells, 0, 0, H.gl, 0, [], [], ob0⟩
noncomputable def leafR : Result → Sem PySem.Fin
  | .ok f => .pure (.done f)
  | .error e => .raise e
theorem leafR_eq (r : Result) : leafR r = leafOf r := by cases r <;> rfl
noncomputable def leafS (r : Result) (H : HS) : Cf → Cf
  | ⟨c, p, fs, _, _, _, _, _, _, _, _, _⟩ => ⟨c, p, fs, leafR r, H.cells, 0, 0, H.gl, 0, [], [], ob0⟩
noncomputable def callK : Sem PySem.Fin → Result → Sem PySem.Fin
  | .call _ _ _ _ k => k
  | _ => fun _ => .unsupported ""
noncomputable def backS (r : Result) (H : HS) : Cf → Cf
  | ⟨c, p, fs, t, _, _, _, _, _, _, _, _⟩ => ⟨c, p, fs, callK t r, H.cells, 0, 0, H.gl, 0, [], [], ob0⟩
noncomputable def pickS (js : List Nat) (k : Nat) (gs : List Nat) (gk : Nat) : Cf → Cf
  | ⟨c, p, fs, t, cells, _, _, gl, _, _, _, _⟩ => ⟨c, p, fs, t, pick cells js k, 0, 0, pick gl gs gk, 0, [], [], ob0⟩
noncomputable def setS (H : HS) : Cf → Cf
  | ⟨c, p, fs, t, _, _, _, _, _, _, _, _⟩ => ⟨c, p, fs, t, H.cells, 0, 0, H.gl, 0, [], [], ob0⟩
noncomputable def treeS (t : Sem PySem.Fin) : Cf → Cf
  | ⟨c, p, fs, _, cells, m, i, gl, gm, _, _, _⟩ => ⟨c, p, fs, t, cells, m, i, gl, gm, [], [], ob0⟩
noncomputable def Cf.hs (st : Cf) : HS := ⟨st.cells, st.gl⟩
noncomputable def doneR : Sem PySem.Fin → Option Result
  | .pure (.done f) => some (.ok f)
  | .raise e => some (.error e)
  | _ => none
theorem none_some {α : Type} {a : α} (h : none = some a) : False := by cases h
theorem doneR_eq {t : Sem PySem.Fin} {r : Result} (h : doneR t = some r) : t = leafOf r := by
  cases t <;> first | exact (none_some h).elim | exact congrArg leafOf (Option.some.inj h) | skip
  rename_i fin
  cases fin with
  | done => exact congrArg leafOf (Option.some.inj h)
  | again c => exact (none_some h).elim
noncomputable def codeOf : Sem PySem.Fin → Code
  | .call c _ _ _ _ => c
  | .pure (.again c) => c
  | _ => .block [] default
noncomputable def isAgain : Sem PySem.Fin → Bool
  | .pure (.again _) => true
  | _ => false
noncomputable def isCall : Sem PySem.Fin → Bool
  | .call .. => true
  | _ => false
noncomputable def headOf : Sem PySem.Fin → Option PySem.Value
  | .call _ h _ _ _ => h
  | _ => none
noncomputable def Cf.inn (Γ : Ctx) (st : Cf) : Ctx := ((Γ.goto st.c).over st.fs).enter (codeOf st.t) (headOf st.t) st.p
noncomputable def Cf.onn (Γ : Ctx) (st : Cf) : Ctx := ((Γ.goto st.c).over st.fs).goto (codeOf st.t)
noncomputable def Cf.quiet (st : Cf) : Bool := match isAgain st.t with
  | true => quietF (codeOf st.t)
  | false => false
theorem rest_inv : ∀ {m i g : Nat}, (match m with | 0 => (match i with | 0 => (match g with | 0 => true | _ => false) | _ => false) | _ => false) = true → m = 0 ∧ i = 0 ∧ g = 0
  | 0, 0, 0, _ => ⟨rfl, rfl, rfl⟩
  | _ + 1, _, _, h => by cases h
  | 0, _ + 1, _, h => by cases h
  | 0, 0, _ + 1, h => by cases h
theorem isCall_inv {t : Sem PySem.Fin} (h : isCall t = true) : ∃ c hd g l k, t = .call c hd g l k := by
  cases t <;> first | exact (Bool.false_ne_true h).elim | exact ⟨_, _, _, _, _, rfl⟩
theorem isAgain_inv {t : Sem PySem.Fin} (h : isAgain t = true) : ∃ c, t = .pure (.again c) := by
  cases t <;> first | exact (Bool.false_ne_true h).elim | skip
  rename_i fin
  cases fin with
  | done => exact (Bool.false_ne_true h).elim
  | again c => exact ⟨_, rfl⟩
theorem quiet_inv {st : Cf} (h : st.quiet = true) : st.t = .pure (.again (codeOf st.t)) ∧ quietF (codeOf st.t) = true := by
  unfold Cf.quiet at h
  split at h
  · rename_i ea
    obtain ⟨c, e⟩ := isAgain_inv ea
    exact ⟨by rw [e]; rfl, h⟩
  · cases h
theorem runs_leaf_inv {M : Model} {Γ : Ctx} {p : Pos} {t : Sem PySem.Fin} {fs : List Frame} {s s' : Shared} {e : End} (h : Runs M Γ p t fs s e s') : ∀ r, doneR t = some r → fs = [] → e = .ret r ∧ s' = s := by
  run_tac sq0
  refine Runs.casesOn (motive := fun _ _ t fs s e s' _ => ∀ r, doneR t = some r → fs = [] → e = .ret r ∧ s' = s) h ?_ ?_ ?_ ?_ ?_ ?_ ?_ ?_ ?_ ?_ ?_ ?_ ?_ ?_ ?_ ?_ ?_ ?_ ?_ ?_ ?_ ?_ ?_ ?_ ?_ ?_ ?_ ?_ ?_ ?_ ?_ ?_
  all_goals (intros; rename_i h1 h2; first | exact absurd h2 (List.cons_ne_nil _ _) | exact ⟨congrArg End.ret (Option.some.inj h1), rfl⟩ | exact (none_some h1).elim)
  run_tac sq
theorem go_onR {C : Cx} {R : Result → Shared → Prop} {B B' : List (Code × Pos)} {c' c : Code} {p : Pos} {fs : List Frame} {r : Result} {s s' : Shared} (hq : quietF c = true) (eΓ : (((cxB B).goto c').over fs).goto c = ⟨c, none, none, B', none⟩)
    (hr : Runs C.M ⟨c, none, none, B', none⟩ p (C.M.den c) [] s (.ret r) s') (H : Go C.M R (cxB B) c' p fs (leafR r) s') : Go C.M R (cxB B) c' p fs (.pure (.again c)) s := by
  run_tac sq0
  obtain ⟨r2, s2, hr2, hR⟩ := H
  rw [leafR_eq] at hr2
  refine ⟨r2, s2, Runs.head (Γ := (cxB B).goto c') (c₁ := c') (fun e₁ s₂ hk => .again (by rw [quietF_eq]; exact hq) ?_) hr2, hR⟩
  rw [eΓ]
  obtain ⟨rfl, rfl⟩ := runs_leaf_inv hk r (by cases r <;> rfl) rfl
  exact hr
  run_tac sq
theorem go_callR {C : Cx} {R : Result → Shared → Prop} {B B' : List (Code × Pos)} {c' c₁ c : Code} {p : Pos} {fs : List Frame} {r : Result} {s s' : Shared} {hd : Option PySem.Value} {gd : Bool} {lv : List PySem.Value} {k : Result → Sem PySem.Fin} (eΓ : (((cxB B).goto c').over fs).enter c₁ hd p = ⟨c, none, none, B', none⟩)
    (hr : Runs C.M ⟨c, none, none, B', none⟩ p (C.M.den c) [] s (.ret r) s') (H : Go C.M R (cxB B) c' p fs (k r) s') : Go C.M R (cxB B) c' p fs (.call c₁ hd gd lv k) s := by
  obtain ⟨r2, s2, hr2, hR⟩ := H
  obtain rfl : c₁ = c := congrArg Ctx.code eΓ
  rw [← eΓ] at hr
  exact ⟨r2, s2, Runs.head (Γ := (cxB B).goto c') (c₁ := c') (fun _ _ hk => .call hr hk) hr2, hR⟩
section
variable {C : Cx} {R : Result → Shared → Prop} {B : List (Code × Pos)} {n t G : Nat} {st : Cf} {Q Q' : Result → HS → Prop}
theorem ctrS {c : Code} {p : Pos} {H : HS} (K : ∀ n t G, GoS C (Post C Q) B n t G (startS c p H)) : Ctr C ⟨c, none, none, B, none⟩ p H Q := by
  intro n t G h g D E
  obtain ⟨r, s', hr, hR⟩ := K n t G h g D E
  refine ⟨r, s', ?_, hR⟩
  show Runs C.M _ p (C.M.den c) [] _ _ _
  rw [C.hden]; exact hr
theorem gos_sub {H : HS} (hn : (H.cells.map (·.1)).Nodup) (hs : ∀ q ∈ H.cells, q ∈ st.cells) (ht : ∀ q ∈ st.cells, q ∈ H.cells ∨ okCell C.tabs q = true)
    (gn : (H.gl.map (·.1)).Nodup) (gs : ∀ q ∈ H.gl, q ∈ st.gl) (gt : ∀ q ∈ st.gl, q ∈ H.gl ∨ okGen q = true) (K : ∀ n t G, GoS C R B n t G (setS H st)) : GoS C R B n t G st := by
  run_tac sq0
  intro h g D E
  have z := K (n + st.m) (t + st.i) (G + st.gm) h g (by have := D.sub hn hs ht; rw [show (C.mv (.sh []) (n + st.m) (t + st.i) (G + st.gm)).n = n + C.N0 + st.m by show n + st.m + C.N0 = _; (run_tac om)]; exact this) (E.sub gn gs gt)
  have e : (C.mv (.sh []) (n + st.m) (t + st.i) (G + st.gm)).tk + 0 = (C.mv (.sh []) n t G).tk + st.i := by show t + st.i + C.T0 = t + C.T0 + st.i; (run_tac om)
  obtain ⟨c, p, fs, tr, cells, m, i, gl, gm, l, r, ob⟩ := st
  show Go C.M R (cxB B) c p fs tr ⟨h, g, C.d, (C.mv (.sh []) n t G).tk + i, C.os⟩
  rw [← e]
  exact z
  run_tac sq
theorem gos_pick (js : List Nat) (k : Nat) (gs : List Nat) (gk : Nat) (ho : (match pickOk (okCell C.tabs) st.cells js k with | true => pickOk okGen st.gl gs gk | false => false) = true) (K : ∀ n t G, GoS C R B n t G (pickS js k gs gk st)) : GoS C R B n t G st := by
  split at ho
  · rename_i h1
    intro h g D E
    have f1 := pick_facts D.nodup h1
    have f2 := pick_facts E.nodup ho
    exact gos_sub (H := ⟨pick st.cells js k, pick st.gl gs gk⟩) f1.1 f1.2.1 f1.2.2 f2.1 f2.2.1 f2.2.2 K h g D E
  · cases ho
theorem gos_perm {cells' : Cells} {gl' : GL} (h1 : cells'.Perm st.cells) (h2 : gl'.Perm st.gl) (K : ∀ n t G, GoS C R B n t G (setS ⟨cells', gl'⟩ st)) : GoS C R B n t G st := fun h g D E =>
  gos_sub (H := ⟨cells', gl'⟩) ((h1.map _).nodup_iff.mpr D.nodup) (fun _ hq => h1.mem_iff.mp hq) (fun _ hq => .inl (h1.mem_iff.mpr hq)) ((h2.map _).nodup_iff.mpr E.nodup) (fun _ hq => h2.mem_iff.mp hq) (fun _ hq => .inl (h2.mem_iff.mpr hq)) K h g D E
theorem gos_end (r : Result) (hfs : st.fs = []) (e : doneR st.t = some r) (hm : (match st.m with | 0 => (match st.i with | 0 => (match st.gm with | 0 => true | _ => false) | _ => false) | _ => false) = true) (H : Q r st.hs) : GoS C (Post C Q) B n t G st := by
  intro h g D E
  obtain ⟨m0, i0, g0⟩ := rest_inv hm
  rw [m0] at D
  rw [g0] at E
  rw [i0, hfs, doneR_eq e]
  exact ⟨r, _, Runs.leaf r, n, t, G, h, g, st.hs, rfl, D, E, H⟩
theorem gos_call (c : Code) (B' : List (Code × Pos)) (p : Pos) (e : isCall st.t = true) (eΓ : st.inn (cxB B) = ⟨c, none, none, B', none⟩) (ep : st.p = p) (hm : (match st.m with | 0 => (match st.i with | 0 => (match st.gm with | 0 => true | _ => false) | _ => false) | _ => false) = true)
    (K : Ctr C ⟨c, none, none, B', none⟩ p st.hs Q') (H : ∀ r H', Q' r H' → ∀ n t G, GoS C R B n t G (backS r H' st)) : GoS C R B n t G st := by
  run_tac sq0
  intro h g D E
  obtain ⟨m0, i0, g0⟩ := rest_inv hm
  rw [m0] at D
  rw [g0] at E
  subst ep
  obtain ⟨r, s', hr, n', t', G', h', g', H', rfl, D', E', hQ⟩ := K n t G h g D E
  have z : Go C.M R (cxB B) st.c st.p st.fs (callK st.t r) ⟨h', g', C.d, t' + C.T0, C.os⟩ := H r H' hQ n' t' G' h' g' D' E'
  obtain ⟨c₁, hd, gd, lv, k, et⟩ := isCall_inv e
  unfold Cf.inn at eΓ
  rw [et] at eΓ z
  rw [i0, et]
  exact go_callR eΓ hr z
  run_tac sq
theorem gos_on (c : Code) (B' : List (Code × Pos)) (p : Pos) (e : st.quiet = true) (eΓ : st.onn (cxB B) = ⟨c, none, none, B', none⟩) (ep : st.p = p) (hm : (match st.m with | 0 => (match st.i with | 0 => (match st.gm with | 0 => true | _ => false) | _ => false) | _ => false) = true)
    (K : Ctr C ⟨c, none, none, B', none⟩ p st.hs Q') (H : ∀ r H', Q' r H' → ∀ n t G, GoS C R B n t G (leafS r H' st)) : GoS C R B n t G st := by
  run_tac sq0
  intro h g D E
  obtain ⟨m0, i0, g0⟩ := rest_inv hm
  rw [m0] at D
  rw [g0] at E
  subst ep
  obtain ⟨r, s', hr, n', t', G', h', g', H', rfl, D', E', hQ⟩ := K n t G h g D E
  have z := H r H' hQ n' t' G' h' g' D' E'
  obtain ⟨q1, q2⟩ := quiet_inv e
  have ec : codeOf st.t = c := congrArg Ctx.code eΓ
  rw [ec] at q1 q2
  rw [i0, q1]
  exact go_onR q2 (ec ▸ eΓ) hr z
  run_tac sq
theorem gos_leaf {r : Result} {H : HS} (hfs : st.fs = []) (hQ : Q r H) : GoS C (Post C Q) B n t G (leafS r H st) := by
  obtain ⟨c', p', fs, tr, cells, m, i, gl, gm, l, r', ob⟩ := st
  exact gos_end r hfs (by cases r <;> rfl) rfl hQ
theorem Ctr.mono {Γ : Ctx} {p : Pos} {H : HS} (K : Ctr C Γ p H Q') (h : ∀ r H', Q' r H' → Q r H') : Ctr C Γ p H Q := by
  intro n t G h1 g D E
  obtain ⟨r, s', hr, n', t', G', h', g', H', rfl, D', E', hQ⟩ := K n t G h1 g D E
  exact ⟨r, _, hr, n', t', G', h', g', H', rfl, D', E', h _ _ hQ⟩
theorem gos_tree {t' : Sem PySem.Fin} (e : st.t = t') (K : GoS C R B n t G (treeS t' st)) : GoS C R B n t G st := by
  obtain ⟨c', p', fs, tr, cells, m, i, gl, gm, l, r', ob⟩ := st
  dsimp only at e
  subst e
  exact K
end
end Mine
end -- RO
section -- RV
set_option backward.match.sparseCases false
set_option genSizeOf false
open PySem PySem.W PySem.W.X
namespace Mine
inductive VV where
  | none | b (b : Bool) | i (i : Int) | s (s : Str) | r (a : Addr) | t (n : String) | bi (n : String) | other
noncomputable def vv : PySem.Value → VV
  | .none => .none
  | .bool b => .b b
  | .int i _ => .i i
  | .str s _ => .s s
  | .ref a => .r a
  | .type n => .t n
  | .builtin n => .bi n
  | _ => .other
noncomputable def unvv : VV → Tok → PySem.Value → PySem.Value
  | .none, _, _ => .none
  | .b b, _, _ => .bool b
  | .i i, k, _ => .int i k
  | .s s, k, _ => .str s k
  | .r a, _, _ => .ref a
  | .t n, _, _ => .type n
  | .bi n, _, _ => .builtin n
  | .other, _, v => v
theorem vv_un (v : PySem.Value) : ∃ k a, v = unvv (vv v) k a := by
  run_tac sq0
  cases v with
  | int i t => exact ⟨t, .none, rfl⟩
  | str i t => exact ⟨t, .none, rfl⟩
  | float i t => exact ⟨0, .float i t, rfl⟩
  | bytes i t => exact ⟨0, .bytes i t, rfl⟩
  | ellipsis => exact ⟨0, .ellipsis, rfl⟩
  | notImplemented => exact ⟨0, .notImplemented, rfl⟩
  | _ => exact ⟨0, .none, rfl⟩
  run_tac sq
theorem vv_none {v : PySem.Value} (h : vv v = .none) : v = .none := by cases v <;> first | rfl | exact VV.noConfusion h
theorem vv_b {v : PySem.Value} {b : Bool} (h : vv v = .b b) : v = .bool b := by cases v <;> first | exact congrArg PySem.Value.bool (VV.b.inj h) | exact VV.noConfusion h
theorem vv_i {v : PySem.Value} {i : Int} (h : vv v = .i i) : ∃ t, v = .int i t := by cases v <;> first | exact ⟨_, congrArg (fun x => PySem.Value.int x _) (VV.i.inj h)⟩ | exact VV.noConfusion h
theorem vv_s {v : PySem.Value} {i : Str} (h : vv v = .s i) : ∃ t, v = .str i t := by cases v <;> first | exact ⟨_, congrArg (fun x => PySem.Value.str x _) (VV.s.inj h)⟩ | exact VV.noConfusion h
theorem vv_r {v : PySem.Value} {i : Addr} (h : vv v = .r i) : v = .ref i := by cases v <;> first | exact congrArg PySem.Value.ref (VV.r.inj h) | exact VV.noConfusion h
theorem vv_t {v : PySem.Value} {i : String} (h : vv v = .t i) : v = .type i := by cases v <;> first | exact congrArg PySem.Value.type (VV.t.inj h) | exact VV.noConfusion h
inductive KV where
  | exact (d : Data) | seqV (xs : List PySem.Value) | seq (l : List VV) | dict (l : List (VV × VV)) | cell (v : Option VV) | fields (l : List VV) | long (a b : VV) | func (fd : FuncData) | plain | other
structure OV where
  cls : VV
  dict : Option Addr
  kv : KV
noncomputable def fdv (fd : FuncData) : FuncData := { fd with pyModule := .none, closureTuple := .none }
noncomputable def kv : Data → KV
  | .seq xs _ => .seq (xs.toList.map vv)
  | .dict es _ => .dict (es.toList.map fun e => (vv e.key, vv e.val))
  | .cell v => .cell (match v with | some v => some (vv v) | none => none)
  | .fields xs => match xs.toList with
    | a :: b :: _ :: _ :: _ :: _ :: _ :: _ :: _ => .long (vv a) (vv b)
    | l => .fields (l.map vv)
  | .func fd => .func (fdv fd)
  | .plain => .plain
  | _ => .other
noncomputable def kvT : KV → Data → KV
  | .exact _, d => .exact d
  | .seqV _, .seq xs _ => .seqV xs.toList
  | _, d => kv d
noncomputable def ovT (x : OV) (o : Obj) : OV := ⟨vv o.cls, o.dict, match o.slots.toList with | [] => kvT x.kv o.data | _ :: _ => .other⟩
noncomputable def ov (o : Obj) : OV := ⟨vv o.cls, o.dict, match o.slots.toList with | [] => kv o.data | _ :: _ => .other⟩
theorem kvT_cases (k : KV) (d : Data) : kvT k d = kv d ∨ kvT k d = .exact d ∨ ∃ xs ep, d = .seq xs ep ∧ kvT k d = .seqV xs.toList := by
  cases k with
  | exact => exact .inr (.inl rfl)
  | seqV l => cases d with
    | seq xs ep => exact .inr (.inr ⟨xs, ep, rfl, rfl⟩)
    | _ => exact .inl rfl
  | _ => exact .inl rfl
structure JV where
  tok : Tok
  alt : PySem.Value
  tok2 : Tok
  alt2 : PySem.Value
  hash : Int
  ep : Nat
  sl : Array (Option PySem.Value)
  dt : Data
  more : List PySem.Value
noncomputable def jv0 : JV := ⟨0, .none, 0, .none, 0, 0, #[], .plain, []⟩
noncomputable abbrev JS := Nat → JV
noncomputable def unvvs : List VV → JS → List PySem.Value
  | [], _ => []
  | v :: l, J => unvv v (J 0).tok (J 0).alt :: unvvs l (fun i => J (i + 1))
noncomputable def unes : List (VV × VV) → JS → List DictEntry
  | [], _ => []
  | q :: l, J => ⟨(J 0).hash, unvv q.1 (J 0).tok (J 0).alt, unvv q.2 (J 0).tok2 (J 0).alt2⟩ :: unes l (fun i => J (i + 1))
noncomputable def unkv : KV → JV → JS → Data
  | .exact d, _, _ => d
  | .seqV xs, j, _ => .seq ⟨xs⟩ j.ep
  | .seq l, j, J => .seq ⟨unvvs l J⟩ j.ep
  | .dict l, j, J => .dict ⟨unes l J⟩ j.ep
  | .cell v, j, _ => .cell (match v with | some v => some (unvv v j.tok2 j.alt2) | none => none)
  | .fields l, _, J => .fields ⟨unvvs l J⟩
  | .long a b, j, J => .fields ⟨unvv a (J 0).tok (J 0).alt :: unvv b (J 1).tok (J 1).alt :: j.more⟩
  | .func fd, j, _ => .func { fd with pyModule := j.alt2, closureTuple := (match j.more with | v :: _ => v | [] => .none) }
  | .plain, _, _ => .plain
  | .other, j, _ => j.dt
noncomputable def unsl : KV → JV → Array (Option PySem.Value)
  | .other, j => j.sl
  | _, _ => #[]
noncomputable def unov (x : OV) (j : JV) (J : JS) : Obj := ⟨unvv x.cls j.tok j.alt, x.dict, unkv x.kv j J, unsl x.kv j⟩
theorem unvvs_of : ∀ xs : List PySem.Value, ∃ J, xs = unvvs (xs.map vv) J
  | [] => ⟨fun _ => jv0, rfl⟩
  | x :: xs => by
    obtain ⟨k, a, e⟩ := vv_un x
    obtain ⟨J, h⟩ := unvvs_of xs
    refine ⟨fun | 0 => { jv0 with tok := k, alt := a } | i + 1 => J i, ?_⟩
    show _ = unvv (vv x) k a :: unvvs (xs.map vv) J
    rw [← e, ← h]
theorem unes_of : ∀ xs : List DictEntry, ∃ J, xs = unes (xs.map fun e => (vv e.key, vv e.val)) J
  | [] => ⟨fun _ => jv0, rfl⟩
  | x :: xs => by
    obtain ⟨k, a, e⟩ := vv_un x.key
    obtain ⟨k2, a2, e2⟩ := vv_un x.val
    obtain ⟨J, h⟩ := unes_of xs
    refine ⟨fun | 0 => { jv0 with tok := k, alt := a, tok2 := k2, alt2 := a2, hash := x.hash } | i + 1 => J i, ?_⟩
    show _ = ⟨x.hash, unvv (vv x.key) k a, unvv (vv x.val) k2 a2⟩ :: unes (xs.map fun e => (vv e.key, vv e.val)) J
    rw [← e, ← e2, ← h]
theorem kv_fields (l : List PySem.Value) : kv (.fields ⟨l⟩) = .fields (l.map vv) ∨ ∃ a b c d e f g h r, l = a :: b :: c :: d :: e :: f :: g :: h :: r := by
  run_tac sq0
  rcases l with _ | ⟨x0, l⟩
  · exact .inl rfl
  rcases l with _ | ⟨x1, l⟩
  · exact .inl rfl
  rcases l with _ | ⟨x2, l⟩
  · exact .inl rfl
  rcases l with _ | ⟨x3, l⟩
  · exact .inl rfl
  rcases l with _ | ⟨x4, l⟩
  · exact .inl rfl
  rcases l with _ | ⟨x5, l⟩
  · exact .inl rfl
  rcases l with _ | ⟨x6, l⟩
  · exact .inl rfl
  rcases l with _ | ⟨x7, l⟩
  · exact .inl rfl
  exact .inr ⟨_, _, _, _, _, _, _, _, _, rfl⟩
  run_tac sq
theorem unov_of (o : Obj) : ∃ j J, o = unov (ov o) j J := by
  run_tac sq0
  (
  obtain ⟨c, d, dt, sl⟩ := o
  obtain ⟨k, a, e⟩ := vv_un c
  have key : ∃ j J, dt = unkv (kv dt) j J ∧ j.tok = k ∧ j.alt = a ∧ j.sl = sl := by
    cases dt with
    | seq xs ep =>
      obtain ⟨J, h⟩ := unvvs_of xs.toList
      refine ⟨{ jv0 with tok := k, alt := a, sl := sl, ep := ep }, J, ?_, rfl, rfl, rfl⟩
      show _ = Data.seq ⟨unvvs (xs.toList.map vv) J⟩ ep
      rw [← h]
    | dict xs ep =>
      obtain ⟨J, h⟩ := unes_of xs.toList
      refine ⟨{ jv0 with tok := k, alt := a, sl := sl, ep := ep }, J, ?_, rfl, rfl, rfl⟩
      show _ = Data.dict ⟨unes (xs.toList.map fun e => (vv e.key, vv e.val)) J⟩ ep
      rw [← h]
    | cell v =>
      cases v with
      | none => exact ⟨{ jv0 with tok := k, alt := a, sl := sl }, fun _ => jv0, rfl, rfl, rfl, rfl⟩
      | some v =>
        obtain ⟨k2, a2, e2⟩ := vv_un v
        refine ⟨{ jv0 with tok := k, alt := a, sl := sl, tok2 := k2, alt2 := a2 }, fun _ => jv0, ?_, rfl, rfl, rfl⟩
        show _ = Data.cell (some (unvv (vv v) k2 a2))
        rw [← e2]
    | fields xs =>
      obtain ⟨l⟩ := xs
      obtain ⟨J, h⟩ := unvvs_of l
      rcases kv_fields l with hl | ⟨a1, b1, c1, d1, e1, f1, g1, h1, r, rfl⟩
      · refine ⟨{ jv0 with tok := k, alt := a, sl := sl }, J, ?_, rfl, rfl, rfl⟩
        rw [hl]
        show _ = Data.fields ⟨unvvs (l.map vv) J⟩
        rw [← h]
      · refine ⟨{ jv0 with tok := k, alt := a, sl := sl, more := c1 :: d1 :: e1 :: f1 :: g1 :: h1 :: r }, J, ?_, rfl, rfl, rfl⟩
        have z1 : a1 = unvv (vv a1) (J 0).tok (J 0).alt := (List.cons.inj h).1
        have z2 : b1 = unvv (vv b1) (J 1).tok (J 1).alt := (List.cons.inj (List.cons.inj h).2).1
        show _ = Data.fields ⟨unvv (vv a1) (J 0).tok (J 0).alt :: unvv (vv b1) (J 1).tok (J 1).alt :: _⟩
        rw [← z1, ← z2]
    | func fd =>
      exact ⟨{ jv0 with tok := k, alt := a, sl := sl, alt2 := fd.pyModule, more := [fd.closureTuple] }, fun _ => jv0, rfl, rfl, rfl, rfl⟩
    | plain => exact ⟨{ jv0 with tok := k, alt := a, sl := sl }, fun _ => jv0, rfl, rfl, rfl, rfl⟩
    | _ => exact ⟨{ jv0 with tok := k, alt := a, sl := sl, dt := _ }, fun _ => jv0, rfl, rfl, rfl, rfl⟩
  obtain ⟨j, J, h1, h2, h3, h4⟩ := key
  obtain ⟨sl⟩ := sl
  cases sl with
  | nil =>
    refine ⟨j, J, ?_⟩
    show _ = (⟨unvv (vv c) j.tok j.alt, d, unkv (kv dt) j J, unsl (kv dt) j⟩ : Obj)
    have hs : unsl (kv dt) j = #[] := by
      cases hk : kv dt <;> first | rfl | (show j.sl = _; rw [h4])
    rw [h2, h3, hs, ← e, ← h1]
  | cons y l =>
    refine ⟨{ jv0 with tok := k, alt := a, sl := ⟨y :: l⟩, dt := dt }, fun _ => jv0, ?_⟩
    show _ = (⟨unvv (vv c) k a, d, dt, ⟨y :: l⟩⟩ : Obj)
    rw [← e]
  )
  run_tac sq
theorem unov_ofT {x : OV} {o : Obj} (h : ovT x o = x) : ∃ j J, o = unov x j J := by
  run_tac sq0
  (
  obtain ⟨c, d, dt, ⟨sl⟩⟩ := o
  cases sl with
  | cons y l =>
    have : x = ov ⟨c, d, dt, ⟨y :: l⟩⟩ := by rw [← h]; rfl
    rw [this]; exact unov_of _
  | nil =>
    rcases kvT_cases x.kv dt with e | e | ⟨xs, ep, hd, e⟩
    · have : x = ov ⟨c, d, dt, ⟨[]⟩⟩ := by rw [← h]; show (⟨vv c, d, kvT x.kv dt⟩ : OV) = ⟨vv c, d, kv dt⟩; rw [e]
      rw [this]; exact unov_of _
    · obtain ⟨c', d', k'⟩ := x
      dsimp only at e
      obtain ⟨k, a, ec⟩ := vv_un c
      simp only [ovT, OV.mk.injEq] at h
      obtain ⟨h1, h2, h3⟩ := h
      rw [e] at h3
      subst h1 h2 h3
      refine ⟨{ jv0 with tok := k, alt := a }, fun _ => jv0, ?_⟩
      show _ = (⟨unvv (vv c) k a, d, dt, #[]⟩ : Obj)
      rw [← ec]
    · obtain ⟨c', d', k'⟩ := x
      dsimp only at e
      subst hd
      obtain ⟨k, a, ec⟩ := vv_un c
      simp only [ovT, OV.mk.injEq] at h
      obtain ⟨h1, h2, h3⟩ := h
      rw [e] at h3
      subst h1 h2 h3
      refine ⟨{ jv0 with tok := k, alt := a, ep := ep }, fun _ => jv0, ?_⟩
      show _ = (⟨unvv (vv c) k a, d, .seq ⟨xs.toList⟩ ep, #[]⟩ : Obj)
      rw [← ec]
  )
  run_tac sq
noncomputable abbrev Vs := List (Addr × OV)
structure JO where
  j : JV
  J : JS
noncomputable def build : Vs → (Nat → JO) → Cells → Cells
  | [], _, T => T
  | q :: l, J, T => (q.1, unov q.2 (J 0).j (J 0).J) :: build l (fun i => J (i + 1)) T
noncomputable def Cv : Cells → Vs → Cells → Prop
  | cells, [], T => cells = T
  | cells, q :: l, T => ∃ o cs, cells = (q.1, o) :: cs ∧ ovT q.2 o = q.2 ∧ Cv cs l T
theorem Cv_open : ∀ {l : Vs} {cells T : Cells}, Cv cells l T → ∃ J, cells = build l J T
  | [], _, _, h => ⟨fun _ => ⟨jv0, fun _ => jv0⟩, h⟩
  | q :: l, _, T, ⟨o, cs, e, eo, h⟩ => by
    obtain ⟨J, h⟩ := Cv_open h
    obtain ⟨j, Jo, eq⟩ := unov_ofT eo
    refine ⟨fun | 0 => ⟨j, Jo⟩ | i + 1 => J i, ?_⟩
    subst e h
    show _ = (q.1, unov q.2 j Jo) :: build l J T
    rw [← eq]
noncomputable def vTakeR : Vs → Cells → Vs
  | [], _ => []
  | x :: l, cells => match cells with
    | [] => []
    | q :: cells => (q.1, ovT x.2 q.2) :: vTakeR l cells
noncomputable def vTake (cells : Cells) (l : Vs) : Vs := vTakeR l cells
noncomputable def dropR : Nat → Cells → Cells
  | 0, l => l
  | n + 1, l => match l with
    | [] => []
    | _ :: l => dropR n l
noncomputable def takeR : Nat → Cells → Cells
  | 0, _ => []
  | n + 1, l => match l with
    | [] => []
    | q :: l => q :: takeR n l
noncomputable def takeC (l : Cells) (n : Nat) : Cells := takeR n l
noncomputable def dropC (l : Cells) (n : Nat) : Cells := dropR n l
theorem Cv_of : ∀ {n : Nat} {l : Vs} {cells T : Cells}, vTake cells l = l → dropC cells n = T → Nat.beq l.length n = true → Cv cells l T
  | 0, l, cells, T, h, hd, hl => by
    cases l with
    | nil => exact hd
    | cons => cases hl
  | n + 1, l, cells, T, h, hd, hl => by
    cases cells with
    | nil => cases l with
      | nil => cases hl
      | cons => simp [vTake, vTakeR] at h
    | cons q cells =>
      cases l with
      | nil => cases hl
      | cons x l =>
        have h' : (q.1, ovT x.2 q.2) :: vTake cells l = x :: l := h
        rw [List.cons.injEq] at h'
        obtain ⟨h1, h2⟩ := h'
        have e1 : q.1 = x.1 := congrArg Prod.fst h1
        have e2 : ovT x.2 q.2 = x.2 := congrArg Prod.snd h1
        exact ⟨q.2, cells, by rw [← e1], e2, Cv_of h2 hd hl⟩
theorem Cv_append : ∀ {l l' : Vs} {cells T : Cells}, Cv cells (l ++ l') T ↔ ∃ T', Cv cells l T' ∧ Cv T' l' T
  | [], l', cells, T => ⟨fun h => ⟨cells, rfl, h⟩, fun ⟨_, e, h⟩ => by cases e; exact h⟩
  | q :: l, l', cells, T => by
    constructor
    · rintro ⟨o, cs, e, eo, h⟩
      obtain ⟨T', h1, h2⟩ := Cv_append.mp h
      exact ⟨T', ⟨o, cs, e, eo, h1⟩, h2⟩
    · rintro ⟨T', ⟨o, cs, e, eo, h1⟩, h2⟩
      exact ⟨o, cs, e, eo, Cv_append.mpr ⟨T', h1, h2⟩⟩
noncomputable def vAt (cells : Cells) (i : Nat) : Option (Addr × OV) := match cellAt cells i with
  | some q => some (q.1, ov q.2)
  | none => none
theorem vAt_inv {cells : Cells} {i : Nat} {a : Addr} {x : OV} (h : vAt cells i = some (a, x)) : ∃ o, cellAt cells i = some (a, o) ∧ ov o = x := by
  unfold vAt at h
  split at h
  · rename_i q e
    cases h
    exact ⟨q.2, e, rfl⟩
  · cases h
noncomputable def plainCtx (c : Code) (B : List (Code × Pos)) : Ctx := ⟨c, none, none, B, none⟩
noncomputable def builtV : Code → Option (String × List VV × Nat)
  | .builtin id a => some (id, a.pos.map vv, a.kw.length)
  | _ => none
theorem builtV_inv {c : Code} {f : String} {l : List VV} (h : builtV c = some (f, l, 0)) : ∃ as, c = .builtin f ⟨as, []⟩ ∧ as.map vv = l := by
  cases c <;> simp [builtV] at h
  rename_i fv a
  obtain ⟨as, kw⟩ := a
  simp at h
  obtain ⟨h1, h2, h3⟩ := h
  subst h3 h1
  exact ⟨as, rfl, h2⟩
section
variable {C : Cx} {Γ : Ctx} {p : Pos} {H : HS} {Q : Result → HS → Prop}
noncomputable def arOf (Γ : Ctx) : Around := { handled := Γ.handled, depth := frameCount Γ.below + Γ.code.weight, frames := none, guards := none, units := Γ.units }
theorem arOf_in (Γ : Ctx) : Γ.In (arOf Γ).in1 := ⟨rfl, Nat.le_refl _, fun _ h => (nomatch h), fun _ h => (nomatch h), Nat.le_succ _⟩
theorem arOf_below (Γ : Ctx) (c : Code) : (Γ.goto c).Below (arOf Γ) := by
  refine ⟨rfl, Nat.le_add_right _ _, fun _ h => (nomatch h), fun _ h => (nomatch h), ?_⟩
  show unitsOf Γ.below ≤ Γ.units
  exact Nat.le_add_left _ _
theorem ctr_meets {id : String} {args : Args} {B : Builtin} {S : Spec} (entry : entryFor table id = some B) (g : Meets (B args) S) (hc : Γ.code = .builtin id args)
    (hS : ∀ n t G h g, Rep C.h₀ C.kt C.tabs (n + C.N0) h H.cells 0 → RepG g G 0 H.gl → S (arOf Γ) (Post C Q) ⟨h, g, C.d, t + C.T0, C.os⟩) : Ctr C Γ p H Q := by
  run_tac sq0
  intro n t G h gs D E
  rw [wpCode_iff_wp, hc]
  show Sem.wp C.M Γ (match entryFor table id with | some b => b args | none => unsupported ((withoutEnding? id "#data").getD id)) _ _ p _
  rw [entry]
  refine Sem.wp_mono C.M Γ _ (fun fin p' s' h' => ?_) (fun _ _ _ h' => h') p _ (g C.prog C.w (arOf Γ) (Post C Q) _ (hS n t G h gs D E) Γ p (arOf_in Γ))
  cases fin with
  | done f => exact h'
  | again c' => exact ⟨h'.1, h'.2 (Γ.goto c') p' rfl (arOf_below Γ c')⟩
  run_tac sq
noncomputable def madeQ (H : HS) : Made → Result → HS → Prop
  | .val v, r, H' => r = .ok (.ret v) ∧ H' = H
  | .int i, r, H' => (∃ k, r = .ok (.ret (.int i k))) ∧ H' = H
  | .str x, r, H' => (∃ k, r = .ok (.ret (.str x k))) ∧ H' = H
  | _, _, _ => False
noncomputable def madeOk : Made → Prop
  | .val _ | .int _ => True
  | .str x => x.length ≤ sizeLine
  | _ => False
end
noncomputable def P2 (P : Params) (b1 b2 : Bool) : Params := { P with followText := fun s => @Bool.rec (fun _ => Bool) (@Bool.rec (fun _ => Bool) (P.followText s) b2 (PySem.W.S.eqLit 10139888712337904147300001983332972444938612 s)) b1 (PySem.W.S.eqLit 2510650655181157320538776789020469319833841985448949215332 s) }
noncomputable def W2 (w : World) (b1 b2 : Bool) : World := { w with params := P2 w.params b1 b2 }
theorem W2_self (w : World) : W2 w (w.params.followText "comprehension-iter-twice") (w.params.followText "special-get-raises") = w := by
  run_tac sq0
  have e : P2 w.params (w.params.followText "comprehension-iter-twice") (w.params.followText "special-get-raises") = w.params := by
    unfold P2
    have h : (fun s => @Bool.rec (fun _ => Bool) (@Bool.rec (fun _ => Bool) (w.params.followText s) (w.params.followText "special-get-raises") (PySem.W.S.eqLit 10139888712337904147300001983332972444938612 s)) (w.params.followText "comprehension-iter-twice") (PySem.W.S.eqLit 2510650655181157320538776789020469319833841985448949215332 s)) = w.params.followText := by
      funext s
      have e1 := congrFun (PySem.W.S.eqLit_eq "comprehension-iter-twice" 2510650655181157320538776789020469319833841985448949215332 (by decide +kernel)) s
      have e2 := congrFun (PySem.W.S.eqLit_eq "special-get-raises" 10139888712337904147300001983332972444938612 (by decide +kernel)) s
      cases h1 : PySem.W.S.eqLit 2510650655181157320538776789020469319833841985448949215332 s with
      | true =>
        rw [h1] at e1
        have : s = "comprehension-iter-twice" := by simpa using e1
        rw [this]
      | false =>
        cases h2 : PySem.W.S.eqLit 10139888712337904147300001983332972444938612 s with
        | true =>
          rw [h2] at e2
          have : s = "special-get-raises" := by simpa using e2
          rw [this]
        | false => rfl
    rw [h]
  unfold W2
  rw [e]
  run_tac sq
end Mine
end -- RV
section -- RP
set_option backward.match.sparseCases false
set_option genSizeOf false
set_option genInjectivity false
open PySem PySem.W PySem.W.X
namespace Mine
noncomputable def Sp (C : Cx) (c : Code) (B : List (Code × Pos)) (vs : Vs) (P : Cells → Prop) (Q : Cells → GL → Result → HS → Prop) : Prop :=
  ∀ p T GT cells, Cv cells vs T → P T → Ctr C ⟨c, none, none, B, none⟩ p ⟨cells, GT⟩ (Q T GT)
noncomputable def noP : Cells → Prop := fun _ => True
noncomputable def Rets (x : VV) (vs : Vs) (T : Cells) (GT : GL) : Result → HS → Prop :=
  fun r H => ∃ v cells, r = .ok (.ret v) ∧ vv v = x ∧ H = ⟨cells, GT⟩ ∧ Cv cells vs T
noncomputable def Flows (f : Flow) (vs : Vs) (T : Cells) (GT : GL) : Result → HS → Prop :=
  fun r H => ∃ cells, r = .ok f ∧ H = ⟨cells, GT⟩ ∧ Cv cells vs T
theorem Rets.open {x : VV} {vs : Vs} {T : Cells} {GT : GL} {r : Result} {H : HS} (h : Rets x vs T GT r H) : ∃ k a J, r = .ok (.ret (unvv x k a)) ∧ H = ⟨build vs J T, GT⟩ := by
  obtain ⟨v, cells, rfl, hv, rfl, hc⟩ := h
  obtain ⟨k, a, e⟩ := vv_un v
  obtain ⟨J, e2⟩ := Cv_open hc
  exact ⟨k, a, J, by rw [← hv, ← e], by rw [e2]⟩
theorem Flows.open {f : Flow} {vs : Vs} {T : Cells} {GT : GL} {r : Result} {H : HS} (h : Flows f vs T GT r H) : ∃ J, r = .ok f ∧ H = ⟨build vs J T, GT⟩ := by
  obtain ⟨cells, rfl, rfl, hc⟩ := h
  obtain ⟨J, e2⟩ := Cv_open hc
  exact ⟨J, rfl, by rw [e2]⟩
theorem Rets.elim {x : VV} {vs : Vs} {T : Cells} {GT : GL} {r : Result} {H : HS} {K : Result → HS → Prop} (h : Rets x vs T GT r H) (f : ∀ k a J, K (.ok (.ret (unvv x k a))) ⟨build vs J T, GT⟩) : K r H := by
  obtain ⟨k, a, J, rfl, rfl⟩ := h.open
  exact f k a J
theorem Flows.elim {fl : Flow} {vs : Vs} {T : Cells} {GT : GL} {r : Result} {H : HS} {K : Result → HS → Prop} (h : Flows fl vs T GT r H) (f : ∀ J, K (.ok fl) ⟨build vs J T, GT⟩) : K r H := by
  obtain ⟨J, rfl, rfl⟩ := h.open
  exact f J
noncomputable def valOf : Result → VV
  | .ok (.ret v) => vv v
  | _ => .other
noncomputable def isRet : Result → Bool
  | .ok (.ret _) => true
  | _ => false
noncomputable def restD (st : Cf) : Bool := match st.m with | 0 => (match st.i with | 0 => (match st.gm with | 0 => true | _ => false) | _ => false) | _ => false
noncomputable def resD (st : Cf) : Result := match doneR st.t with
  | some r => r
  | none => .ok .next
noncomputable def isDone (st : Cf) : Bool := match doneR st.t with
  | some _ => (match st.fs with | [] => true | _ => false)
  | none => false
noncomputable def pickB (tabs : List Nat) (st : Cf) (js : List Nat) (k : Nat) (gs : List Nat) (gk : Nat) : Bool := match pickOk (okCell tabs) st.cells js k with | true => pickOk okGen st.gl gs gk | false => false
theorem Rets.of {x : VV} {vs : Vs} {T : Cells} {GT : GL} {r : Result} {H : HS} (len : Nat) (hr : isRet r = true) (hx : valOf r = x) (hg : H.gl = GT) (hv : vTake H.cells vs = vs) (hd : dropC H.cells len = T) (hl : Nat.beq vs.length len = true) : Rets x vs T GT r H := by
  obtain ⟨cells, gl⟩ := H
  cases r with
  | error => cases hr
  | ok f => cases f with
    | ret v => exact ⟨v, cells, rfl, hx, by rw [← hg], Cv_of hv hd hl⟩
    | _ => cases hr
theorem Flows.of {f : Flow} {vs : Vs} {T : Cells} {GT : GL} {r : Result} {H : HS} (len : Nat) (hr : r = .ok f) (hg : H.gl = GT) (hv : vTake H.cells vs = vs) (hd : dropC H.cells len = T) (hl : Nat.beq vs.length len = true) : Flows f vs T GT r H := by
  obtain ⟨cells, gl⟩ := H
  exact ⟨cells, hr, by rw [← hg], Cv_of hv hd hl⟩
theorem cellSet_same {α : Type} : ∀ {l : List (Nat × α)} {j : Nat} {q : Nat × α}, cellAt l j = some q → cellSet l j (fun _ => q.2) = l
  | [], _, _, h => by cases h
  | x :: l, j, q, h => by
    unfold cellAt at h
    unfold cellSet
    split at h
    · rename_i e
      cases h
      rfl
    · rw [cellSet_same h]
noncomputable def keyAt (cells : Cells) (j : Nat) : Option Addr := match cellAt cells j with
  | some q => some q.1
  | none => none
theorem or3_no {a b c : Bool} (h : (a || b || c) = true) (ha : a = false) (hb : b = false) (hc : c = false) : False := by subst ha hb hc; cases h
noncomputable def intR : Sem PySem.Fin → Int
  | .pure (.done (.ret (.int i _))) => i
  | _ => 0
noncomputable def tokR : Sem PySem.Fin → Tok
  | .pure (.done (.ret (.int _ k))) => k
  | _ => 0
noncomputable def vAtT (x : OV) (cells : Cells) (j : Nat) : Option OV := match cellAt cells j with
  | some q => some (ovT x q.2)
  | none => none
noncomputable def cellS (j : Nat) (o : Obj) : Cf → Cf
  | ⟨c, p, fs, t, cells, m, i, gl, gm, _, _, _⟩ => ⟨c, p, fs, t, cellSet cells j (fun _ => o), m, i, gl, gm, [], [], ob0⟩
structure En where
  C : Cx
  R : Result → Shared → Prop
  F : Fam
noncomputable def GoM (E : En) (n t G : Nat) (st : Cf) : Prop := ∀ B, E.F.has B → GoS E.C E.R B n t G st
noncomputable def innD (st : Cf) : Code × Option PySem.Value × Option PySem.Value × Option PySem.Value := ((st.inn (cxB [])).code, (st.inn (cxB [])).handled, (st.inn (cxB [])).own, (st.inn (cxB [])).past)
noncomputable def onnD (st : Cf) : Code × Option PySem.Value × Option PySem.Value × Option PySem.Value := ((st.onn (cxB [])).code, (st.onn (cxB [])).handled, (st.onn (cxB [])).own, (st.onn (cxB [])).past)
theorem innD_eq {st : Cf} {c : Code} (h : innD st = (c, none, none, none)) (B : List (Code × Pos)) : st.inn (cxB B) = ⟨c, none, none, stk st.c st.p st.fs B, none⟩ := by
  run_tac sq0
  (
  simp only [innD, Prod.mk.injEq] at h
  obtain ⟨h1, h2, h3, h4⟩ := h
  have e : (st.inn (cxB B)).below = stk st.c st.p st.fs B := by
    show (st.c, st.p) :: (st.fs.map Frame.where_ ++ B) = (st.c, st.p) :: whereF st.fs B
    rw [whereF_eq]
  have e1 : (st.inn (cxB B)).code = c := h1
  have e2 : (st.inn (cxB B)).handled = none := h2
  have e3 : (st.inn (cxB B)).own = none := h3
  have e4 : (st.inn (cxB B)).past = none := h4
  cases hx : st.inn (cxB B) with
  | mk a b c d e5 =>
    rw [hx] at e e1 e2 e3 e4
    dsimp only at e e1 e2 e3 e4
    rw [e, e1, e2, e3, e4]
  )
  run_tac sq
theorem onnD_eq {st : Cf} {c : Code} (h : onnD st = (c, none, none, none)) (B : List (Code × Pos)) : st.onn (cxB B) = ⟨c, none, none, whereF st.fs B, none⟩ := by
  run_tac sq0
  (
  simp only [onnD, Prod.mk.injEq] at h
  obtain ⟨h1, h2, h3, h4⟩ := h
  have e : (st.onn (cxB B)).below = whereF st.fs B := by
    show (st.fs.map Frame.where_ ++ B) = whereF st.fs B
    rw [whereF_eq]
  have e1 : (st.onn (cxB B)).code = c := h1
  have e2 : (st.onn (cxB B)).handled = none := h2
  have e3 : (st.onn (cxB B)).own = none := h3
  have e4 : (st.onn (cxB B)).past = none := h4
  cases hx : st.onn (cxB B) with
  | mk a b c d e5 =>
    rw [hx] at e e1 e2 e3 e4
    dsimp only at e e1 e2 e3 e4
    rw [e, e1, e2, e3, e4]
  )
  run_tac sq
noncomputable def obL (F : Fam) (st : Cf) (J : Nat → Junk) : List Nat × List (Sem PySem.Fin) × Bool × List (List (Sem PySem.Fin)) := (st.l, st.ob.wl, F.obE st.ob J)
noncomputable def obK (F : Fam) (st : Cf) : List Nat × List (Sem PySem.Fin) × Bool × List (List (Sem PySem.Fin)) := (st.r, st.ob.wr, F.obR st.ob)
noncomputable def Bw (C : Cx) (Γ : Ctx) (H : HS) (P : Result → Prop) : Prop := ∀ p, Ctr C Γ p H (fun r H' => P r ∧ H' = H)
section
variable {E : En} {C : Cx} {R : Result → Shared → Prop} {F : Fam} {n t G : Nat} {st : Cf} {Q : Result → HS → Prop} {Q' : Cells → GL → Result → HS → Prop}
theorem gr (N a : Nat) (e : ∀ J, obL E.F (runS (E.C.mv E.F n t G) N a st) J = obK E.F (runS (E.C.mv E.F n t G) N a st)) (H : let s' := runS (E.C.mv E.F n t G) N a st; GoM E n t G s') : GoM E n t G st := by
  intro B hB
  have e0 := e (fun _ => junk0)
  simp only [obL, obK, Prod.mk.injEq] at e0
  exact gos_run E.F N a e0.1 (Fam.ob_ok (fun J => by have := e J; simp only [obL, obK, Prod.mk.injEq] at this; exact this.2.2) e0.2.1 hB) (H B hB)
theorem gp (js : List Nat) (k : Nat) (gs : List Nat) (gk : Nat) (ho : pickB E.C.tabs st js k gs gk = true) (K : ∀ n t G, let s' := pickS js k gs gk st; GoM E n t G s') : GoM E n t G st := fun B hB => gos_pick js k gs gk ho fun n t G => K n t G B hB
theorem ge (e : isDone st = true) (hm : restD st = true) (H : Q (resD st) st.hs) : GoM ⟨C, Post C Q, F⟩ n t G st := by
  intro B hB
  unfold isDone at e
  split at e
  · rename_i r hr
    split at e
    · rename_i hfs
      refine gos_end r hfs hr hm ?_
      have : resD st = r := by unfold resD; rw [hr]
      rw [← this]; exact H
    · cases e
  · cases e
noncomputable def callD (F : Fam) (st : Cf) (Ss : List (List Nat)) (vs : Vs) (len : Nat) : Bool × (Code × Option PySem.Value × Option PySem.Value × Option PySem.Value) × Bool × Bool × Vs × Bool :=
  (isCall st.t, innD st, F.sub (skN st.c :: preF st.fs) (stk st.c st.p st.fs) Ss, restD st, vTake st.cells vs, Nat.beq vs.length len)
noncomputable def onD (F : Fam) (st : Cf) (Ss : List (List Nat)) (vs : Vs) (len : Nat) : Bool × (Code × Option PySem.Value × Option PySem.Value × Option PySem.Value) × Bool × Bool × Vs × Bool :=
  (st.quiet, onnD st, F.sub (preF st.fs) (whereF st.fs) Ss, restD st, vTake st.cells vs, Nat.beq vs.length len)
theorem kc {c : Code} {Ss' : List (List Nat)} {vs : Vs} {P : Cells → Prop} (len : Nat) (sp : ∀ B, okB Ss' B = true → Sp E.C c B vs P Q') (e : callD E.F st Ss' vs len = (true, (c, none, none, none), true, true, vs, true))
    (hP : P (dropC st.cells len)) (H : ∀ r H', Q' (dropC st.cells len) st.gl r H' → ∀ n t G, let s' := backS r H' st; GoM E n t G s') : GoM E n t G st := by
  run_tac sq0
  simp only [callD, Prod.mk.injEq] at e
  obtain ⟨e1, e2, e3, e4, e5, e6⟩ := e
  exact fun B hB => gos_call c _ st.p e1 (innD_eq (by simp only [e2]) B) rfl e4 (sp _ (Fam.sub_stk e3 hB) st.p (dropC st.cells len) st.gl st.cells (Cv_of e5 rfl e6) hP) fun r H' h n t G => H r H' h n t G B hB
  run_tac sq
theorem ko {c : Code} {Ss' : List (List Nat)} {vs : Vs} {P : Cells → Prop} (len : Nat) (sp : ∀ B, okB Ss' B = true → Sp E.C c B vs P Q') (e : onD E.F st Ss' vs len = (true, (c, none, none, none), true, true, vs, true))
    (hP : P (dropC st.cells len)) (H : ∀ r H', Q' (dropC st.cells len) st.gl r H' → ∀ n t G, let s' := leafS r H' st; GoM E n t G s') : GoM E n t G st := by
  run_tac sq0
  simp only [onD, Prod.mk.injEq] at e
  obtain ⟨e1, e2, e3, e4, e5, e6⟩ := e
  exact fun B hB => gos_on c _ st.p e1 (onnD_eq (by simp only [e2]) B) rfl e4 (sp _ (Fam.sub_where e3 hB) st.p (dropC st.cells len) st.gl st.cells (Cv_of e5 rfl e6) hP) fun r H' h n t G => H r H' h n t G B hB
  run_tac sq
theorem kaw {c : Code} {Ss' : List (List Nat)} {vs : Vs} {P : Cells → Prop} {T : Cells} {GT : GL} (len : Nat) (sp : ∀ B, okB Ss' B = true → Sp C c B vs P Q') (e : (onD F st Ss' vs len, st.fs, dropC st.cells len, st.gl) = ((true, (c, none, none, none), true, true, vs, true), [], T, GT))
    (hP : P T) (H : ∀ r H', Q' T GT r H' → Q r H') : GoM ⟨C, Post C Q, F⟩ n t G st := by
  run_tac sq0
  simp only [onD, Prod.mk.injEq] at e
  obtain ⟨⟨e1, e2, e3, e4, e5, e6⟩, e7, rfl, rfl⟩ := e
  exact fun B hB => gos_on c _ st.p e1 (onnD_eq (by simp only [e2]) B) rfl e4 (sp _ (Fam.sub_where e3 hB) st.p (dropC st.cells len) st.gl st.cells (Cv_of e5 rfl e6) hP) fun r H' h n t G => gos_leaf e7 (H r H' h)
  run_tac sq
theorem ka {c : Code} {Ss' : List (List Nat)} {vs : Vs} {P : Cells → Prop} {T : Cells} {GT : GL} {Q0 : Cells → GL → Result → HS → Prop} (len : Nat) (sp : ∀ B, okB Ss' B = true → Sp C c B vs P Q') (e : (onD F st Ss' vs len, st.fs, dropC st.cells len, st.gl) = ((true, (c, none, none, none), true, true, vs, true), [], T, GT))
    (hP : P T) (H : ∀ r H', Q' T GT r H' → Q0 T GT r H') : GoM ⟨C, Post C (Q0 T GT), F⟩ n t G st := kaw len sp e hP H
theorem kb {P : Result → Prop} (e : (st.quiet, (onnD st).2, restD st) = (true, (none, none, none), true)) (K : ∀ B, E.F.has B → Bw E.C ⟨codeOf st.t, none, none, whereF st.fs B, none⟩ st.hs P) (H : ∀ r, P r → ∀ n t G, let s' := leafS r st.hs st; GoM E n t G s') : GoM E n t G st := by
  run_tac sq0
  simp only [Prod.mk.injEq] at e
  obtain ⟨e1, e2, e4⟩ := e
  exact fun B hB => gos_on (codeOf st.t) _ st.p e1 (onnD_eq (c := codeOf st.t) (Prod.ext rfl e2) B) rfl e4 (K B hB st.p) fun r H' h n t G => by
    obtain ⟨h, rfl⟩ := h
    exact H r h n t G B hB
  run_tac sq
theorem ke (e : (isDone st, restD st) = (true, true)) (H : Q (resD st) st.hs) : GoM ⟨C, Post C Q, F⟩ n t G st := by
  simp only [Prod.mk.injEq] at e
  exact ge e.1 e.2 H
theorem rets {x : VV} {vs : Vs} {T : Cells} {GT : GL} (len : Nat) (e : (isRet (resD st), valOf (resD st), st.gl, vTake st.cells vs, dropC st.cells len, Nat.beq vs.length len) = (true, x, GT, vs, T, true)) : Rets x vs T GT (resD st) st.hs := by
  simp only [Prod.mk.injEq] at e
  obtain ⟨e1, e2, e3, e4, e5, e6⟩ := e
  exact Rets.of len e1 e2 e3 e4 e5 e6
theorem flows {f : Flow} {vs : Vs} {T : Cells} {GT : GL} (len : Nat) (e : (resD st, st.gl, vTake st.cells vs, dropC st.cells len, Nat.beq vs.length len) = (.ok f, GT, vs, T, true)) : Flows f vs T GT (resD st) st.hs := by
  simp only [Prod.mk.injEq] at e
  obtain ⟨e1, e3, e4, e5, e6⟩ := e
  exact Flows.of len e1 e3 e4 e5 e6
theorem gview (j : Nat) (x y : OV) (h : vAtT x st.cells j = some y) (e : y = x) (K : ∀ jv J, let s' := cellS j (unov x jv J) st; GoM E n t G s') : GoM E n t G st := by
  run_tac sq0
  obtain ⟨c', p', fs, tr, cells, m, i, gl, gm, l, r', ob⟩ := st
  subst e
  unfold vAtT at h
  split at h
  · rename_i q hq
    injection h with h
    obtain ⟨jv, J, eo⟩ := unov_ofT h
    have z := K jv J
    rw [← eo] at z
    have : cellSet cells j (fun _ => q.2) = cells := cellSet_same hq
    intro B hB
    show GoS E.C E.R B n t G ⟨c', p', fs, tr, cells, m, i, gl, gm, l, r', ob⟩
    have z := z B hB
    rw [← this]
    exact z
  · cases h
  run_tac sq
theorem gtree (t' : Sem PySem.Fin) (e : st.t = t') (K : let s' := treeS t' st; GoM E n t G s') : GoM E n t G st := fun B hB => gos_tree e (K B hB)
theorem gx {α : Type} (e : α) (f : α → Sem PySem.Fin) (h : st.t = f e) (K : ∀ x, e = x → let s' := treeS (f x) st; GoM E n t G s') : GoM E n t G st := fun B hB =>
  gos_tree h (K e rfl B hB)
theorem gint (h : st.t = .pure (.done (.ret (.int (intR st.t) (tokR st.t))))) (K : ∀ i, i = intR st.t → let s' := treeS (.pure (.done (.ret (.int i (tokR st.t))))) st; GoM E n t G s') : GoM E n t G st := fun B hB =>
  gos_tree h (K _ rfl B hB)
theorem gs (b : Bool) (h : st.t = .pure (.done (.ret (.bool b)))) (x : b = true → let s' := treeS (.pure (.done (.ret (.bool true)))) st; GoM E n t G s') (y : b = false → let s' := treeS (.pure (.done (.ret (.bool false)))) st; GoM E n t G s') : GoM E n t G st := by
  intro B hB
  cases hb : b with
  | true => exact gos_tree (by rw [h, hb]) (x hb B hB)
  | false => exact gos_tree (by rw [h, hb]) (y hb B hB)
noncomputable def SpG1 (C : Cx) (c : Code) (B : List (Code × Pos)) (vs : Vs) (g : Nat) (x : GenState) (P : Cells → Prop) (Q : Cells → GL → Result → HS → Prop) : Prop :=
  ∀ p T GT cells, Cv cells vs T → P T → Ctr C ⟨c, none, none, B, none⟩ p ⟨cells, (g, x) :: GT⟩ (Q T GT)
noncomputable def tailG : GL → GL
  | [] => []
  | _ :: l => l
noncomputable def headG : GL → GenState
  | [] => .running
  | q :: _ => q.2
theorem koG {c : Code} {Ss' : List (List Nat)} {vs : Vs} {g : Nat} {x : GenState} {P : Cells → Prop} (len : Nat) (sp : ∀ B, okB Ss' B = true → SpG1 E.C c B vs g x P Q') (e : (onD E.F st Ss' vs len, st.gl) = ((true, (c, none, none, none), true, true, vs, true), (g, x) :: tailG st.gl))
    (hP : P (dropC st.cells len)) (H : ∀ r H', Q' (dropC st.cells len) (tailG st.gl) r H' → ∀ n t G, let s' := leafS r H' st; GoM E n t G s') : GoM E n t G st := by
  run_tac sq0
  simp only [onD, Prod.mk.injEq] at e
  obtain ⟨⟨e1, e2, e3, e4, e5, e6⟩, e7⟩ := e
  have hh : st.hs = ⟨st.cells, (g, x) :: tailG st.gl⟩ := by
    show (⟨st.cells, st.gl⟩ : HS) = _
    rw [← e7]
  exact fun B hB => gos_on c _ st.p e1 (onnD_eq (by simp only [e2]) B) rfl e4 (by rw [hh]; exact sp _ (Fam.sub_where e3 hB) st.p (dropC st.cells len) (tailG st.gl) st.cells (Cv_of e5 rfl e6) hP) fun r H' h n t G => H r H' h n t G B hB
  run_tac sq
theorem kaG {c : Code} {Ss' : List (List Nat)} {vs : Vs} {g : Nat} {x : GenState} {P : Cells → Prop} {T : Cells} {GT : GL} {Q0 : Cells → GL → Result → HS → Prop} (len : Nat) (sp : ∀ B, okB Ss' B = true → SpG1 C c B vs g x P Q') (e : (onD F st Ss' vs len, st.fs, dropC st.cells len, st.gl) = ((true, (c, none, none, none), true, true, vs, true), [], T, (g, x) :: GT))
    (hP : P T) (H : ∀ r H', Q' T GT r H' → Q0 T GT r H') : GoM ⟨C, Post C (Q0 T GT), F⟩ n t G st := by
  run_tac sq0
  simp only [onD, Prod.mk.injEq] at e
  obtain ⟨⟨e1, e2, e3, e4, e5, e6⟩, e7, rfl, e8⟩ := e
  have hh : st.hs = ⟨st.cells, (g, x) :: GT⟩ := by
    show (⟨st.cells, st.gl⟩ : HS) = _
    rw [← e8]
  exact fun B hB => gos_on c _ st.p e1 (onnD_eq (by simp only [e2]) B) rfl e4 (by rw [hh]; exact sp _ (Fam.sub_where e3 hB) st.p (dropC st.cells len) GT st.cells (Cv_of e5 rfl e6) hP) fun r H' h n t G => gos_leaf e7 (H r H' h)
  run_tac sq
theorem spG_of {Ss : List (List Nat)} {c : Code} {vs : Vs} {g : Nat} {x : GenState} {P : Cells → Prop} (K : ∀ p T GT J, P T → ∀ n t G, let s := startS c p ⟨build vs J T, (g, x) :: GT⟩; GoM ⟨C, Post C (Q' T GT), (.sh Ss)⟩ n t G s) : ∀ B, okB Ss B = true → SpG1 C c B vs g x P Q' := by
  intro B hB p T GT cells hc hP
  obtain ⟨J, rfl⟩ := Cv_open hc
  exact ctrS fun n t G => K p T GT J hP n t G B hB
theorem gne (i j : Nat) (a b : Addr) (hij : Nat.beq i j = false) (hi : keyAt st.cells i = some a) (hj : keyAt st.cells j = some b) (K : a ≠ b → GoM E n t G st) : GoM E n t G st := by
  run_tac sq0
  intro B hB h g D E
  refine K (fun e => ?_) B hB h g D E
  subst e
  have key : ∀ {k x}, keyAt st.cells k = some x → ∃ o, st.cells[k]? = some (x, o) := by
    intro k x hk
    unfold keyAt at hk
    split at hk
    · rename_i q hq
      cases hk
      exact ⟨q.2, by rw [← cellAt_eq]; exact hq⟩
    · cases hk
  obtain ⟨o1, h1⟩ := key hi
  obtain ⟨o2, h2⟩ := key hj
  exact absurd (key_index D.nodup h1 h2 rfl) (Nat.ne_of_beq_eq_false hij)
  run_tac sq
noncomputable def Susp (x : GenState) (c : Code) : Prop := ∃ k lv p, x = .suspended k lv c p [] false ∧ k (.send .none) = .pure (.again c)
theorem take_drop (cells : Cells) : ∀ k, takeC cells k ++ dropC cells k = cells := by
  intro k
  unfold takeC dropC
  induction k generalizing cells with
  | zero => rfl
  | succ k ih => cases cells with
    | nil => rfl
    | cons q l => show q :: (takeR k l ++ dropR k l) = _; rw [ih]
theorem gm_perm {cells' : Cells} {gl' : GL} (h1 : cells'.Perm st.cells) (h2 : gl'.Perm st.gl) (K : ∀ n t G, GoM E n t G (setS ⟨cells', gl'⟩ st)) : GoM E n t G st := fun B hB => gos_perm h1 h2 fun n t G => K n t G B hB
theorem gbring (k : Nat) (T : Cells) (q : Addr × Obj) (T1 T2 : Cells) (hT : T = T1 ++ q :: T2) (hd : dropC st.cells k = T) (K : ∀ n t G, let s' := setS ⟨takeC st.cells k ++ q :: (T1 ++ T2), st.gl⟩ st; GoM E n t G s') : GoM E n t G st :=
  gm_perm (cells' := takeC st.cells k ++ q :: (T1 ++ T2)) (gl' := st.gl) (by
    have := take_drop st.cells k
    rw [hd, hT] at this
    rw [← this]
    have e : takeC (takeC st.cells k ++ (T1 ++ q :: T2)) k = takeC st.cells k := by rw [this]
    rw [e]
    exact (List.perm_append_left_iff _).mpr List.perm_middle.symm) (List.Perm.refl _) K
theorem gput (k : Nat) (T : Cells) (q : Addr × Obj) (T1 T2 : Cells) (hT : T = T1 ++ q :: T2) (hd : dropC st.cells k = q :: (T1 ++ T2)) (K : ∀ n t G, let s' := setS ⟨takeC st.cells k ++ T, st.gl⟩ st; GoM E n t G s') : GoM E n t G st :=
  gm_perm (cells' := takeC st.cells k ++ T) (gl' := st.gl) (by
    have := take_drop st.cells k
    rw [hd] at this
    rw [← this, hT]
    have e : takeC (takeC st.cells k ++ q :: (T1 ++ T2)) k = takeC st.cells k := by rw [this]
    rw [e]
    exact (List.perm_append_left_iff _).mpr List.perm_middle) (List.Perm.refl _) K
theorem gtail (k : Nat) (q : Addr × Obj) (T : Cells) (hd : dropC st.cells k = q :: T) (K : ∀ n t G, let s' := setS ⟨takeC st.cells k ++ (T ++ [q]), st.gl⟩ st; GoM E n t G s') : GoM E n t G st :=
  gm_perm (cells' := takeC st.cells k ++ (T ++ [q])) (gl' := st.gl) (by
    have := take_drop st.cells k
    rw [hd] at this
    rw [← this]
    have e : takeC (takeC st.cells k ++ q :: T) k = takeC st.cells k := by rw [this]
    rw [e]
    exact (List.perm_append_left_iff _).mpr (List.perm_append_singleton _ _)) (List.Perm.refl _) K
theorem sp_of {Ss : List (List Nat)} {c : Code} {vs : Vs} {P : Cells → Prop} (K : ∀ p T GT J, P T → ∀ n t G, let s := startS c p ⟨build vs J T, GT⟩; GoM ⟨C, Post C (Q' T GT), (.sh Ss)⟩ n t G s) : ∀ B, okB Ss B = true → Sp C c B vs P Q' := by
  intro B hB p T GT cells hc hP
  obtain ⟨J, rfl⟩ := Cv_open hc
  exact ctrS fun n t G => K p T GT J hP n t G B hB
theorem gjoin (st' : Cf) (K : let s' := st'; GoM E n t G s') (J : GoM E n t G st' → GoM E n t G st) : GoM E n t G st := J K
noncomputable def bareS : Cf → Cf
  | ⟨c, p, fs, t, cells, m, i, gl, gm, _, _, _⟩ => ⟨c, p, fs, t, cells, m, i, gl, gm, [], [], ob0⟩
theorem geq {st' : Cf} (h : GoM E n t G st') (e : bareS st = bareS st') : GoM E n t G st := by
  run_tac sq0
  obtain ⟨c, p, fs, t, cells, m, i, gl, gm, l, r, ob⟩ := st
  obtain ⟨c', p', fs', t', cells', m', i', gl', gm', l', r', ob'⟩ := st'
  simp only [bareS, Cf.mk.injEq, and_true] at e
  obtain ⟨rfl, rfl, rfl, rfl, rfl, rfl, rfl, rfl, rfl⟩ := e
  exact h
  run_tac sq
noncomputable def boolS (b : Bool) (st : Cf) : Cf := treeS (.pure (.done (.ret (.bool b)))) st
theorem gone {Ss : List (List Nat)} (hf : allF Ss = true) (K : ∀ S ∈ Ss, ∀ J, GoM ⟨C, R, (.one (canon (skL S) J))⟩ n t G st) : GoM ⟨C, R, (.sh Ss)⟩ n t G st := by
  intro B hB
  obtain ⟨S, hS, J, rfl⟩ := okB_inv hB (allF_all hf)
  exact K S hS J _ rfl
end
end Mine
end -- RP
section -- RX
set_option backward.match.sparseCases false
open Lean Meta Elab
set_option compiler.extract_closed false
set_option compiler.small 0
set_option compiler.reuse false
set_option genSizeOf false
set_option genInjectivity false
namespace Mine
def gexpF (iz : Bool) (go : Lean.Expr → MetaM ((Lean.Expr → Lean.Expr) × Option Lean.Expr)) (e : Lean.Expr) : MetaM ((Lean.Expr → Lean.Expr) × Option Lean.Expr) := do
  let .ok e := Kernel.whnf (← getEnv) (← instantiateLCtxMVars (← getLCtx)) (← instantiateMVars e) | throwError "whnf"
  let h := e.getAppFn
  let as := e.getAppArgs
  if h.isProj then
    let (f, s) ← go h.projExpr!
    return (fun x => mkAppN (h.updateProj! (f x)) as, s)
  if let some (.recInfo r) := (← getEnv).find? (h.constName?.getD .anonymous) then
    let i := r.getMajorIdx
    if i < as.size then
      let M := as[i]!
      let ty ← whnfCore (← inferType M)
      if (iz && (ty.isConstOf ``Int || ty.isAppOf ``List)) || ty.isAppOf ``Decidable || ty.isConstOf ``Bool || ty.isAppOf ``Option then
        return (fun x => e.replace fun t => if t == M then some x else none, some M)
      let (f, s) ← go M
      return (fun x => mkAppN h (as.set! i (f x)), s)
  return (fun _ => e, none)
def gexp (iz : Bool) : Lean.Expr → MetaM ((Lean.Expr → Lean.Expr) × Option Lean.Expr) := fx (fun e => pure (fun _ => e, none)) (gexpF iz) 200
def goalArgs (g : MVarId) : MetaM (Array Lean.Expr) := do
  let ty := (← instantiateMVars (← g.getType)).consumeMData
  unless ty.isAppOfArity ``Mine.GoM 5 do throwError "no machine goal"
  return ty.getAppArgs
def gxT (deep : Nat) : Tactic.TacticM Unit := Tactic.withMainContext do
  let g ← Tactic.getMainGoal
  let a ← goalArgs g
  let (f, some s) ← gexp (deep == 50) (mkApp (mkConst ``Mine.Cf.t) a[4]!) | throwError "no decision"
  let sT ← inferType s
  let x := Lean.Expr.fvar (← mkFreshFVarId)
  let F := Lean.Expr.lam `x sT ((f x).abstract #[x]) .default
  let tT := mkApp (mkConst ``PySem.Sem []) (mkConst ``PySem.Fin)
  let r := (mkApp F s).headBeta
  let h := mkExpectedPropHint (mkApp2 (mkConst ``Eq.refl [1]) tT r) (mkApp3 (mkConst ``Eq [1]) tT (mkApp (mkConst ``Mine.Cf.t) a[4]!) r)
  Tactic.replaceMainGoal (← g.apply (mkAppN (mkConst ``Mine.gx) (a ++ #[sT, s, F, h])))
def gR (N a : Nat) : Tactic.TacticM Unit := Tactic.withMainContext do
  let g ← Tactic.getMainGoal
  let v ← goalArgs g
  let F := mkApp (mkConst ``Mine.En.F) v[0]!
  let st := mkAppN (mkConst ``Mine.runS) #[mkAppN (mkConst ``Mine.Cx.mv) #[mkApp (mkConst ``Mine.En.C) v[0]!, F, v[1]!, v[2]!, v[3]!], mkRawNatLit N, mkRawNatLit a, v[4]!]
  let ob := mkApp2 (mkConst ``Mine.obL) F st
  let obT ← inferType ob
  let e := Lean.Expr.lam `J obT.bindingDomain! (mkApp2 (mkConst ``Eq.refl [1]) obT.bindingBody! (.app ob (.bvar 0))) .default
  let k ← mkFreshExprSyntheticOpaqueMVar (.letE `s (mkConst ``Mine.Cf) st (mkAppN (mkConst ``Mine.GoM) #[v[0]!, v[1]!, v[2]!, v[3]!, .bvar 0]) false)
  g.assign (mkAppN (mkConst ``Mine.gr) (v ++ #[mkRawNatLit N, mkRawNatLit a, e, k]))
  let (_, k') ← k.mvarId!.intro `s
  Tactic.replaceMainGoal [k']
end Mine
end -- RX
section -- RB2
set_option backward.match.sparseCases false
set_option genSizeOf false
set_option genInjectivity false
open PySem PySem.W PySem.W.X PySem.Builtin PySem.Builtin.Str
namespace Mine
noncomputable def signAt (tx : Str) (pos : Nat) : Str := match tx.cps[pos]? with
  | some c => ⟨#[c]⟩
  | none => ⟨#[]⟩
theorem slice_one (n pos : Nat) : strSliceIndices (some (pos : Int)) (some ((pos : Int) + 1)) 1 n = if pos < n then [pos] else [] := by
  run_tac sq0
  unfold strSliceIndices sliceRange
  simp only [show (1 : Int) > 0 from by decide, if_true, show ¬ ((pos : Int) < 0) by (run_tac om), show ¬ ((pos : Int) + 1 < 0) by (run_tac om), if_false]
  by_cases h : pos < n
  · have e1 : max 0 (min (pos : Int) (n : Int)) = pos := by (run_tac om)
    have e2 : max 0 (min ((pos : Int) + 1) (n : Int)) = pos + 1 := by (run_tac om)
    rw [e1, e2, if_pos h]
    have e3 : (if (pos : Int) < pos + 1 then (pos : Int) + 1 - pos else 0).toNat = 1 := by rw [if_pos (by (run_tac om))]; (run_tac om)
    simp
    rw [e3]
    exact ⟨0, rfl, by (run_tac om)⟩
  · have e1 : max 0 (min (pos : Int) (n : Int)) = n := by rw [Int.min_eq_right (by (run_tac om)), Int.max_eq_right (by (run_tac om))]
    have e2 : max 0 (min ((pos : Int) + 1) (n : Int)) = n := by rw [Int.min_eq_right (by (run_tac om)), Int.max_eq_right (by (run_tac om))]
    rw [e1, e2, if_neg h]
    simp
  run_tac sq
theorem kv_fields_inv {dt : Data} {l : List VV} (h : kv dt = .fields l) : ∃ xs, dt = .fields ⟨xs⟩ ∧ xs.map vv = l := by
  cases dt <;> first | exact KV.noConfusion h | skip
  rename_i xs
  obtain ⟨xs⟩ := xs
  rcases kv_fields xs with e | ⟨_, _, _, _, _, _, _, _, _, rfl⟩
  · exact ⟨xs, rfl, KV.fields.inj (e.symm.trans h)⟩
  · exact KV.noConfusion h
theorem ov_fields {o : Obj} {c : VV} {d : Option Addr} {l : List VV} (h : ov o = ⟨c, d, .fields l⟩) : ∃ cv xs, o = ⟨cv, d, .fields ⟨xs⟩, #[]⟩ ∧ vv cv = c ∧ xs.map vv = l := by
  run_tac sq0
  (
  obtain ⟨cv, d', dt, ⟨sl⟩⟩ := o
  have h1 : vv cv = c := congrArg OV.cls h
  have h2 : d' = d := congrArg OV.dict h
  have h3 := congrArg OV.kv h
  subst h2
  cases sl with
  | cons y sl => exact KV.noConfusion h3
  | nil =>
    obtain ⟨xs, rfl, hx⟩ := kv_fields_inv (dt := dt) h3
    exact ⟨cv, xs, rfl, h1, hx⟩
  )
  run_tac sq
section
variable {C : Cx} {Γ : Ctx} {H : HS}
theorem getslice_ok {tx : Str} {pos : Nat} {sl : Addr} (hb : builtV Γ.code = some ("str.__getitem__", [.s tx, .r sl], 0)) (i : Nat) (hs : vAt H.cells i = some (sl, ⟨.t "slice", none, .fields [.i pos, .i ((pos : Int) + 1), .none]⟩)) (hl : tx.length ≤ sizeLine) :
    Bw C Γ H (fun r => ∃ k x, r = .ok (.ret (.str x k)) ∧ x = signAt tx pos) := by
  run_tac sq0
  intro p
  obtain ⟨as, hc, ha⟩ := builtV_inv hb
  obtain ⟨v1, l1, rfl, h1, ha⟩ := map_cons ha
  obtain ⟨v2, l2, rfl, h2, ha⟩ := map_cons ha
  obtain rfl := map_nil ha
  obtain ⟨k, rfl⟩ := vv_s h1
  obtain rfl := vv_r h2
  obtain ⟨o, ho, hv⟩ := vAt_inv hs
  obtain ⟨cv, xs, rfl, hcv, hx⟩ := ov_fields hv
  obtain ⟨x1, l1, rfl, e1, hx⟩ := map_cons hx
  obtain ⟨x2, l2, rfl, e2, hx⟩ := map_cons hx
  obtain ⟨x3, l3, rfl, e3, hx⟩ := map_cons hx
  obtain rfl := map_nil hx
  obtain ⟨t1, rfl⟩ := vv_i e1
  obtain ⟨t2, rfl⟩ := vv_i e2
  obtain rfl := vv_none e3
  obtain rfl := vv_t hcv
  refine ctr_meets PySem.F.entry_str_getitem (meets_str_getitem_slice tx k sl (some (pos, t1)) (some ((pos : Int) + 1, t2)) none rfl) hc fun n t G h gs D hg => ?_
  have hh := D.own _ (cellAt_mem ho)
  refine ⟨⟨_, hh, rfl, rfl⟩, ?_⟩
  have hp : slicePicked tx (some ((pos : Int), t1)) (some ((pos : Int) + 1, t2)) none = if pos < tx.length then [pos] else [] := slice_one _ _
  unfold sliceMade
  rw [hp]
  have hsz : tx.length = tx.cps.size := rfl
  by_cases hlt : pos < tx.length
  · have hg? : tx.cps[pos]? = some tx.cps[pos] := Array.getElem?_eq_getElem hlt
    rw [if_pos hlt]
    split
    · rename_i hw
      have hone : tx.length = 1 := by
        have h9 := (Bool.and_eq_true _ _ ▸ hw : _ ∧ _).2
        exact (beq_iff_eq.mp h9).symm
      have : signAt tx pos = tx := by
        unfold signAt
        rw [hg?]
        apply Str.ext'
        obtain ⟨⟨l⟩⟩ := tx
        simp at hsz hone hlt ⊢
        have : l.length = 1 := hone
        obtain ⟨a, rfl⟩ := List.length_eq_one_iff.mp this
        have : pos = 0 := by simp [hsz] at hlt; (run_tac om)
        subst this; rfl
      exact ⟨n, t, G, h, gs, H, rfl, D, hg, ⟨k, _, rfl, this.symm⟩, rfl⟩
    · have e : (([pos].filterMap (tx.cps[·]?)).toArray) = #[tx.cps[pos]] := by simp [hg?]
      rw [e]
      have : signAt tx pos = ⟨#[tx.cps[pos]]⟩ := by unfold signAt; rw [hg?]
      refine ⟨by rw [sizeLine_eq]; show 1 ≤ _; (run_tac om), n, t + 1, G, h, gs, H, by rw [Nat.add_right_comm], D, hg, ⟨_, _, rfl, this.symm⟩, rfl⟩
  · have hg? : tx.cps[pos]? = none := Array.getElem?_eq_none (by (run_tac om))
    rw [if_neg hlt]
    have : signAt tx pos = ⟨#[]⟩ := by unfold signAt; rw [hg?]
    split
    · rename_i hw
      have hz : tx.length = 0 := by
        have h9 := (Bool.and_eq_true _ _ ▸ hw : _ ∧ _).2
        exact (beq_iff_eq.mp h9).symm
      have e : signAt tx pos = tx := by
        rw [this]
        obtain ⟨a⟩ := tx
        have : a = #[] := Array.eq_empty_of_size_eq_zero hz
        rw [this]
      exact ⟨n, t, G, h, gs, H, rfl, D, hg, ⟨k, _, rfl, e.symm⟩, rfl⟩
    · exact ⟨by rw [sizeLine_eq]; show 0 ≤ _; (run_tac om), n, t + 1, G, h, gs, H, by rw [Nat.add_right_comm], D, hg, ⟨_, _, rfl, by rw [this]; rfl⟩, rfl⟩
  run_tac sq
theorem strin_ok {x y : Str} (hb : builtV Γ.code = some ("str.__contains__", [.s x, .s y], 0)) : Bw C Γ H (fun r => ∃ b, r = .ok (.ret (.bool b)) ∧ b = !(occurrences x y 0 x.length 1).isEmpty) := by
  run_tac sq0
  intro p
  obtain ⟨as, hc, ha⟩ := builtV_inv hb
  obtain ⟨v1, l1, rfl, h1, ha⟩ := map_cons ha
  obtain ⟨v2, l2, rfl, h2, ha⟩ := map_cons ha
  obtain rfl := map_nil ha
  obtain ⟨k, rfl⟩ := vv_s h1
  obtain ⟨k2, rfl⟩ := vv_s h2
  refine ctr_meets PySem.F.entry_str_contains (gives_str_contains x y k k2).meets hc fun n t G h gs D hg => ?_
  exact ⟨n, t, G, h, gs, H, rfl, D, hg, ⟨_, rfl, rfl⟩, rfl⟩
  run_tac sq
theorem stradd_ok {x y : Str} (hb : builtV Γ.code = some ("str.__add__", [.s x, .s y], 0)) (hl : (x ++ y).length ≤ sizeLine) : Bw C Γ H (fun r => ∃ z k, r = .ok (.ret (.str z k)) ∧ z = x ++ y) := by
  run_tac sq0
  intro p
  obtain ⟨as, hc, ha⟩ := builtV_inv hb
  obtain ⟨v1, l1, rfl, h1, ha⟩ := map_cons ha
  obtain ⟨v2, l2, rfl, h2, ha⟩ := map_cons ha
  obtain rfl := map_nil ha
  obtain ⟨k, rfl⟩ := vv_s h1
  obtain ⟨k2, rfl⟩ := vv_s h2
  refine ctr_meets PySem.F.entry_str_add (gives_str_add x y k k2).meets hc fun n t G h gs D hg => ?_
  have e0 : ∀ z : Str, (z.length == 0) = true → z = ⟨#[]⟩ := fun z hz => by
    obtain ⟨a⟩ := z
    have : a = #[] := Array.eq_empty_of_size_eq_zero (beq_iff_eq.mp hz)
    rw [this]
  show Made.post _ _ _
  split
  · rename_i h0
    exact ⟨n, t, G, h, gs, H, rfl, D, hg, ⟨_, _, rfl, by rw [e0 x h0]; apply Str.ext'; simp [Str.cps_append]⟩, rfl⟩
  · split
    · rename_i h0
      exact ⟨n, t, G, h, gs, H, rfl, D, hg, ⟨_, _, rfl, by rw [e0 y h0]; apply Str.ext'; simp [Str.cps_append]⟩, rfl⟩
    · exact ⟨hl, n, t + 1, G, h, gs, H, by rw [Nat.add_right_comm], D, hg, ⟨_, _, rfl, rfl⟩, rfl⟩
  run_tac sq
theorem sign_cases {tx x : Str} {pos : Nat} (h : x = signAt tx pos) : (x = ⟨#[]⟩ ∧ tx.cps[pos]? = none) ∨ ∃ c, x = ⟨#[c]⟩ ∧ tx.cps[pos]? = some c := by
  subst h
  unfold signAt
  cases tx.cps[pos]? with
  | none => exact .inl ⟨rfl, rfl⟩
  | some c => exact .inr ⟨c, rfl, rfl⟩
end
end Mine
namespace Mine
section
variable {C : Cx} {Γ : Ctx} {p : Pos} {H : HS} {Q : Result → HS → Prop}
theorem ctr_codeAny (h : ∀ n t G h g, Rep C.h₀ C.kt C.tabs (n + C.N0) h H.cells 0 → RepG g G 0 H.gl → codeAny C.M (arOf Γ) Γ.code (Post C Q) ⟨h, g, C.d, t + C.T0, C.os⟩) : Ctr C Γ p H Q := by
  intro n t G h' g D E
  exact h n t G h' g D E Γ p rfl (by have := arOf_below Γ Γ.code; exact this)
theorem lenstr_ok {x : Str} (hb : builtV Γ.code = some ("len", [.s x], 0)) (hl : x.length ≤ sizeLine) : Bw C Γ H (fun r => ∃ i k, r = .ok (.ret (.int i k)) ∧ i = (x.length : Int)) := by
  run_tac sq0
  intro p
  obtain ⟨as, hc, ha⟩ := builtV_inv hb
  obtain ⟨v1, l1, rfl, h1, ha⟩ := map_cons ha
  obtain rfl := map_nil ha
  obtain ⟨k, rfl⟩ := vv_s h1
  refine ctr_codeAny fun n t G h g D E => ?_
  rw [hc]
  have hf : ¬ (x.length : Int) ≥ 2 ^ 63 := by
    have := sizeLine_eq
    (run_tac om)
  refine codeAny_builtin PySem.entry_len ?_
  rw [Around.under_plainId PySem.plain_len _]
  refine wpAny_mono (wpAny_len_body (E := fun e s' => Post C (fun r H' => (fun r => ∃ i k, r = Except.ok (Flow.ret (PySem.Value.int i k)) ∧ i = (x.length : Int)) r ∧ H' = H) (Except.error e) s') (Q := fun r s' => ∃ k, r = .int (x.length : Int) k ∧ s' = ⟨h, g, C.d, (t + 2) + C.T0, C.os⟩) (typeIs_str _ x k) F.slot_str_len F.entry_str_len (F.args_str_len_1 _) (gives_str_len x k) (by (run_tac om)) hf ⟨_, rfl, ?_⟩) ?_ ?_
  · show (⟨h, g, C.d, t + C.T0 + 1 + 1, C.os⟩ : Shared) = ⟨h, g, C.d, t + 2 + C.T0, C.os⟩
    rw [show t + C.T0 + 1 + 1 = t + 2 + C.T0 by (run_tac om)]
  · rintro fin s' ⟨r, rfl, k2, rfl, rfl⟩
    exact ⟨n, t + 2, G, h, g, H, rfl, D, E, ⟨_, k2, rfl, rfl⟩, rfl⟩
  · exact fun _ _ e => e
  run_tac sq
theorem wp_meets {tr : Sem PySem.Fin} {S : Spec} {s : Shared} (g : Meets tr S) (hS : S (arOf Γ) (Post C Q) s) : Sem.wp C.M Γ tr (Sem.finPost C.M Γ (Post C Q)) (fun e _ s' => Post C Q (.error e) s') p s := by
  refine Sem.wp_mono C.M Γ _ (fun fin p' s' h' => ?_) (fun _ _ _ h' => h') p _ (g C.prog C.w (arOf Γ) (Post C Q) _ hS Γ p (arOf_in Γ))
  cases fin with
  | done f => exact h'
  | again c' => exact ⟨h'.1, h'.2 (Γ.goto c') p' rfl (arOf_below Γ c')⟩
theorem glued2 (x y : Str) : glued ⟨#[]⟩ [x, y] = x ++ y := by
  unfold glued
  apply Str.ext'
  simp [Str.cps_append]
theorem join2_ok {x y : Str} {a : Addr} (hb : builtV Γ.code = some ("str.join", [.s ⟨#[]⟩, .r a], 0)) (i : Nat) (hs : vAtT ⟨.t "tuple", none, .seq [.s x, .s y]⟩ H.cells i = some ⟨.t "tuple", none, .seq [.s x, .s y]⟩) (ha : (match cellAt H.cells i with | some q => q.1 | none => 0) = a) (hl : x.length + y.length ≤ sizeLine) :
    Bw C Γ H (fun r => ∃ z k, r = .ok (.ret (.str z k)) ∧ z = x ++ y) := by
  run_tac sq0
  intro p
  obtain ⟨as, hc, hv⟩ := builtV_inv hb
  obtain ⟨v1, l1, rfl, h1, hv⟩ := map_cons hv
  obtain ⟨v2, l2, rfl, h2, hv⟩ := map_cons hv
  obtain rfl := map_nil hv
  obtain ⟨k, rfl⟩ := vv_s h1
  obtain rfl := vv_r h2
  unfold vAtT at hs
  split at hs
  · rename_i q hq
    rw [hq] at ha
    dsimp only at ha
    subst ha
    injection hs with hs
    obtain ⟨jv, J, eo⟩ := unov_ofT hs
    have hll : tooLong ((([(x, (J 0).tok), (y, (J 1).tok)] : List (Str × Tok)).map (·.1)).toArray.foldl (· + ·.length + (⟨#[]⟩ : Str).length) 0) = false := by
      have e0 : (⟨#[]⟩ : Str).length = 0 := rfl
      unfold tooLong
      simp [e0]
      exact hl
    refine ctr_meets PySem.F.entry_str_join (meets_str_join_tuple ⟨#[]⟩ k q.1 [(x, (J 0).tok), (y, (J 1).tok)] hll) hc fun n t G h gs D hg => ?_
    have hh := D.own _ (cellAt_mem hq)
    rw [eo] at hh
    refine ⟨?_, ?_⟩
    · exact ⟨_, _, hh, rfl, rfl⟩
    · show Made.post (.str (glued ⟨#[]⟩ [x, y])) _ _
      rw [glued2]
      have e : (x ++ y).length = x.length + y.length := by
        show (x ++ y).cps.size = _
        rw [Str.cps_append]; simp [Str.length]
      exact ⟨by rw [e]; exact hl, n, t + 1, G, h, gs, H, by rw [Nat.add_right_comm], D, hg, ⟨_, _, rfl, rfl⟩, rfl⟩
  · cases hs
  run_tac sq
end
end Mine
end -- RB2
section -- M2p
set_option backward.match.sparseCases false
set_option genSizeOf false
set_option genInjectivity false
open PySem PySem.W PySem.W.X
namespace Mine
noncomputable abbrev kt1 (P : Params) : KT := Mine2.D.ktop_560 P
theorem below5 {P : Nat → Prop} {i : Nat} (h : i < 5) (h0 : P 0) (h1 : P 1) (h2 : P 2) (h3 : P 3) (h4 : P 4) : P i := by
  rcases i with _ | _ | _ | _ | _ | i
  · exact h0
  · exact h1
  · exact h2
  · exact h3
  · exact h4
  · exact absurd h (by (run_tac om))
theorem pair5 {P : Nat → Nat → Prop} {i j : Nat} (hi : i < 5) (hj : j < i) (a10 : P 1 0) (a20 : P 2 0) (a21 : P 2 1) (a30 : P 3 0) (a31 : P 3 1) (a32 : P 3 2) (a40 : P 4 0) (a41 : P 4 1) (a42 : P 4 2) (a43 : P 4 3) : P i j := by
  run_tac sq0
  have hj5 : j < 5 := Nat.lt_trans hj hi
  revert hj
  refine below5 (P := fun i => j < i → P i j) hi ?_ ?_ ?_ ?_ ?_
  · exact fun h => absurd h (Nat.not_lt_zero _)
  · exact below5 (P := fun j => j < 1 → P 1 j) hj5 (fun _ => a10) (fun h => absurd h (by decide)) (fun h => absurd h (by decide)) (fun h => absurd h (by decide)) (fun h => absurd h (by decide))
  · exact below5 (P := fun j => j < 2 → P 2 j) hj5 (fun _ => a20) (fun _ => a21) (fun h => absurd h (by decide)) (fun h => absurd h (by decide)) (fun h => absurd h (by decide))
  · exact below5 (P := fun j => j < 3 → P 3 j) hj5 (fun _ => a30) (fun _ => a31) (fun _ => a32) (fun h => absurd h (by decide)) (fun h => absurd h (by decide))
  · exact below5 (P := fun j => j < 4 → P 4 j) hj5 (fun _ => a40) (fun _ => a41) (fun _ => a42) (fun _ => a43) (fun h => absurd h (by decide))
  run_tac sq
theorem pair10 {i j : Nat} (hi : i < 5) (hj : j < i) : (i = 1 ∧ j = 0) ∨ (i = 2 ∧ j = 0) ∨ (i = 2 ∧ j = 1) ∨ (i = 3 ∧ j = 0) ∨ (i = 3 ∧ j = 1) ∨ (i = 3 ∧ j = 2) ∨ (i = 4 ∧ j = 0) ∨ (i = 4 ∧ j = 1) ∨ (i = 4 ∧ j = 2) ∨ (i = 4 ∧ j = 3) :=
  pair5 (P := fun i j => (i = 1 ∧ j = 0) ∨ (i = 2 ∧ j = 0) ∨ (i = 2 ∧ j = 1) ∨ (i = 3 ∧ j = 0) ∨ (i = 3 ∧ j = 1) ∨ (i = 3 ∧ j = 2) ∨ (i = 4 ∧ j = 0) ∨ (i = 4 ∧ j = 1) ∨ (i = 4 ∧ j = 2) ∨ (i = 4 ∧ j = 3)) hi hj (.inl ⟨rfl, rfl⟩) (.inr (.inl ⟨rfl, rfl⟩)) (.inr (.inr (.inl ⟨rfl, rfl⟩))) (.inr (.inr (.inr (.inl ⟨rfl, rfl⟩)))) (.inr (.inr (.inr (.inr (.inl ⟨rfl, rfl⟩))))) (.inr (.inr (.inr (.inr (.inr (.inl ⟨rfl, rfl⟩)))))) (.inr (.inr (.inr (.inr (.inr (.inr (.inl ⟨rfl, rfl⟩))))))) (.inr (.inr (.inr (.inr (.inr (.inr (.inr (.inl ⟨rfl, rfl⟩)))))))) (.inr (.inr (.inr (.inr (.inr (.inr (.inr (.inr (.inl ⟨rfl, rfl⟩))))))))) (.inr (.inr (.inr (.inr (.inr (.inr (.inr (.inr (.inr (⟨rfl, rfl⟩))))))))))
theorem below4 {P : Nat → Prop} {i : Nat} (h : i < 4) (h0 : P 0) (h1 : P 1) (h2 : P 2) (h3 : P 3) : P i := below5 (P := fun i => i < 4 → P i) (Nat.lt_succ_of_lt h) (fun _ => h0) (fun _ => h1) (fun _ => h2) (fun _ => h3) (fun h => absurd h (by decide)) h
theorem two_worlds (pr : Program) (w : World) (b1 b2 : Bool) : (⟨pr, (W2 w b1 b2).params⟩ : Setting) = ⟨pr, (W2 w b1 true).params⟩ ∨ (⟨pr, (W2 w b1 b2).params⟩ : Setting) = ⟨pr, (W2 w b1 false).params⟩ := by
  cases b2
  · exact .inr rfl
  · exact .inl rfl
noncomputable def cx (w : World) (b1 b2 : Bool) (h₀ : Heap) (d : Drawn) (os : OsState) (hk : KT.Holds h₀ 1 0 (kt1 (W2 w b1 b2).params)) (hN : h₀.objs.size ≤ 281) : Cx :=
  { prog := PySem.Challenge.pw_ph0154_02, w := W2 w b1 b2, h₀, s1 := ⟨PySem.Challenge.pw_ph0154_02, (W2 w b1 true).params⟩, s2 := ⟨PySem.Challenge.pw_ph0154_02, (W2 w b1 false).params⟩, hs := two_worlds _ w b1 b2, kt := kt1 (W2 w b1 b2).params, tabs := [140, 147, 269, 280], N0 := 281, T0 := 544, d, os, hk, hN }
noncomputable def fdOf (o : Option Obj) : FuncData := match o with
  | some ⟨_, _, .func fd, _⟩ => fd
  | _ => default
noncomputable def stmtAt (b : FuncBody) (i : Nat) : Stmt := match b with
  | .stmts l => l.getD i default
  | _ => default
noncomputable def sGive : Str := ⟨#[95, 108, 97, 119, 95, 108, 101, 120, 101, 114, 46, 60, 108, 111, 99, 97, 108, 115, 62, 46, 95, 108, 97, 119, 95, 103, 105, 118, 101]⟩
noncomputable def sAt : Str := ⟨#[97, 116]⟩
noncomputable def sText : Str := ⟨#[116, 101, 120, 116]⟩
noncomputable def sRead : Str := ⟨#[114, 101, 97, 100]⟩
noncomputable def sLineno : Str := ⟨#[108, 105, 110, 101, 110, 111]⟩
noncomputable def sInstream : Str := ⟨#[105, 110, 115, 116, 114, 101, 97, 109]⟩
noncomputable def sWhitespace : Str := ⟨#[119, 104, 105, 116, 101, 115, 112, 97, 99, 101]⟩
noncomputable def sPushback : Str := ⟨#[112, 117, 115, 104, 98, 97, 99, 107]⟩
noncomputable def sWs : Str := ⟨#[10, 9, 13, 32]⟩
noncomputable def giveFd (fd : FuncData) (cl : List (Str × Addr)) (cc : PySem.Value) : FuncData := match stmtAt fd.body 1 with
  | .FunctionDef name params body _ _ _ scope _ _ _ => { name := name, qualname := sGive, params := params, body := .stmts body, scope := scope, globals := 3, closure := cl, defaults := .none, kwdefaults := .none, doc := .none, pyModule := .none, annotations := none, code := cc, closureTuple := .none, builtins := 0 }
  | _ => default
structure LA where
  pX : Nat
  pD : Nat
  pP : Nat
  pS : Nat
  pSD : Nat
  pG : Nat
  pCC : Nat
  pCT : Nat
  pCA : Nat
  pL : Nat
  fdS : FuncData
  k1 : Tok
  k2 : Tok
  more : List PySem.Value
noncomputable def lexV (P : Params) (a : LA) (tx : Str) (pos : Nat) (ln : Int) (pb : List PySem.Value) : Vs :=
  [(a.pD + 281, ⟨.t "dict", none, .dict [(.s sLineno, .i ln), (.s sInstream, .r (a.pS + 281)), (.s sWhitespace, .s sWs), (.s sPushback, .r (a.pP + 281))]⟩),
   (a.pL + 281, ⟨.t "list", none, .seq [.i pos]⟩),
   (a.pP + 281, ⟨.t "list", none, .seqV pb⟩),
   (a.pX + 281, ⟨.r 220, some (a.pD + 281), .plain⟩),
   (a.pS + 281, ⟨.t "function", some (a.pSD + 281), .exact (.func a.fdS)⟩),
   (a.pSD + 281, ⟨.t "dict", none, .dict [(.s sRead, .r (a.pG + 281))]⟩),
   (a.pG + 281, ⟨.t "function", none, .func (giveFd (fdOf ((kt1 P).get 274)) [(sText, a.pCT + 281), (sAt, a.pCA + 281)] (.ref (a.pCC + 281)))⟩),
   (a.pCC + 281, ⟨.t "code", none, .exact (.fields ⟨.str ⟨#[95, 108, 97, 119, 95, 103, 105, 118, 101]⟩ a.k1 :: .str sGive a.k2 :: a.more⟩)⟩),
   (a.pCT + 281, ⟨.t "cell", none, .cell (some (.s tx))⟩),
   (a.pCA + 281, ⟨.t "cell", none, .cell (some (.r (a.pL + 281)))⟩)]
noncomputable def sSelf : Str := ⟨#[115, 101, 108, 102]⟩
noncomputable def sToken : Str := ⟨#[116, 111, 107, 101, 110]⟩
noncomputable def sFiter : Str := ⟨#[102, 105, 116, 101, 114]⟩
noncomputable def sCh : Str := ⟨#[99, 104]⟩
noncomputable def sGtQ : Str := ⟨#[95, 110, 101, 116, 114, 99, 108, 101, 120, 46, 103, 101, 116, 95, 116, 111, 107, 101, 110, 46, 60, 108, 111, 99, 97, 108, 115, 62, 46]⟩
noncomputable def gtV (a : LA) (pF pI pM : Nat) (tok : Str) (ch : List (VV × VV)) : Vs :=
  [(pF + 281, ⟨.t "frame", none, .dict ([(.s sSelf, .r (a.pX + 281)), (.s sToken, .s tok), (.s sFiter, .r (pI + 281))] ++ ch)⟩),
   (pI + 281, ⟨.t "callable_iterator", none, .fields [.r (pM + 281), .s ⟨#[]⟩, .b false]⟩),
   (pM + 281, ⟨.t "method", none, .fields [.r 203, .r (a.pX + 281)]⟩)]
noncomputable def forParts : Stmt → Expr × List Stmt × List Stmt
  | .For t _ b o _ => (t, b, o)
  | _ => default
noncomputable def gtEnv (P : Params) (pF : Addr) : Env := { scope := (fdOf ((kt1 P).get 210)).scope, locals := pF, globals := 3, cells := [], qual := sGtQ, func := some 210, code := .ref 209, frame := some pF, builtins := 0 }
noncomputable def gtFor (P : Params) (pF pI : Addr) : Code := .forLoop (forParts (stmtAt (fdOf ((kt1 P).get 210)).body 3)).1 (.ref pI) (forParts (stmtAt (fdOf ((kt1 P).get 210)).body 3)).2.1 (forParts (stmtAt (fdOf ((kt1 P).get 210)).body 3)).2.2 (gtEnv P pF)
noncomputable def ifParts : Stmt → List Stmt × List Stmt
  | .If _ b o _ => (b, o)
  | _ => default
noncomputable def gtBody (P : Params) : List Stmt := (forParts (stmtAt (fdOf ((kt1 P).get 210)).body 3)).2.1
noncomputable def inQ (P : Params) : Stmt := (ifParts ((gtBody P).getD 1 default)).1.getD 0 default
noncomputable def inU (P : Params) : Stmt := (ifParts ((gtBody P).getD 1 default)).2.getD 2 default
noncomputable def forOf (P : Params) (s : Stmt) (pF pI : Addr) : Code := .forLoop (forParts s).1 (.ref pI) (forParts s).2.1 (forParts s).2.2 (gtEnv P pF)
noncomputable def restAt (tx : Str) (pos : Nat) : List Nat := tx.cps.toList.drop pos
noncomputable def nl (c : Nat) : Nat := if c = 10 then 1 else 0
structure LX where
  tok : List Nat
  cons : Nat
  nls : Nat
  ret : Bool
noncomputable def lx (stop : Nat → Bool) : List Nat → List Nat → LX
  | [], acc => ⟨acc, 0, 0, false⟩
  | c :: l, acc => if stop c then ⟨acc, 1, nl c, true⟩ else if c = 92 then (match l with
      | [] => ⟨acc, 1, 0, false⟩
      | d :: l' => ⟨(lx stop l' (acc ++ [d])).tok, (lx stop l' (acc ++ [d])).cons + 2, (lx stop l' (acc ++ [d])).nls + nl d, (lx stop l' (acc ++ [d])).ret⟩)
    else ⟨(lx stop l (acc ++ [c])).tok, (lx stop l (acc ++ [c])).cons + 1, (lx stop l (acc ++ [c])).nls + nl c, (lx stop l (acc ++ [c])).ret⟩
noncomputable def strOf (l : List Nat) : Str := ⟨⟨l⟩⟩
end Mine
end -- M2p
section -- M3
set_option backward.match.sparseCases false
set_option genSizeOf false
set_option genInjectivity false
open PySem PySem.W PySem.W.X
namespace Mine
noncomputable abbrev gtShapes : List (List Nat) := [[47, 1, 0, 3], [1, 0, 3]]
noncomputable abbrev rdShapes : List (List Nat) := [[4, 1, 0, 47, 1, 0, 3], [4, 1, 0, 1, 0, 3], [4, 1, 1, 0, 47, 1, 0, 3], [4, 1, 1, 0, 1, 0, 3], [1, 0, 47, 1, 0, 3], [1, 0, 1, 0, 3], [1, 1, 0, 47, 1, 0, 3], [1, 1, 0, 1, 0, 3]]
noncomputable abbrev inShapes : List (List Nat) := [[1, 0, 47, 1, 0, 3], [1, 0, 1, 0, 3]]
noncomputable abbrev ouShapes : List (List Nat) := [[0, 47, 1, 0, 3], [0, 1, 0, 3]]
noncomputable abbrev smShapes : List (List Nat) := [[0, 3]]
noncomputable abbrev lnShapes : List (List Nat) := [[6, 0, 1, 1, 0, 3], [6, 0, 0, 1, 0, 3], [6, 0, 0, 0, 1, 0, 3]]
noncomputable abbrev stShapes : List (List Nat) := [[7, 49, 0, 1, 1, 0, 3], [7, 49, 0, 0, 1, 0, 3], [7, 49, 0, 0, 0, 1, 0, 3]]
noncomputable abbrev gsShapes : List (List Nat) := [[0, 6, 0, 1, 1, 0, 3], [0, 6, 0, 0, 1, 0, 3], [0, 6, 0, 0, 0, 1, 0, 3]]
noncomputable abbrev joShapes : List (List Nat) := [[0, 7, 49, 0, 1, 1, 0, 3], [0, 7, 49, 0, 0, 1, 0, 3], [0, 7, 49, 0, 0, 0, 1, 0, 3]]
noncomputable abbrev coShapes : List (List Nat) := [[5, 0, 7, 49, 0, 1, 1, 0, 3], [5, 0, 7, 49, 0, 0, 1, 0, 3], [5, 0, 7, 49, 0, 0, 0, 1, 0, 3]]
noncomputable abbrev acShapes : List (List Nat) := [[1, 1, 0, 3]]
noncomputable abbrev pcShapes : List (List Nat) := [[1, 0, 1, 1, 0, 3], [0, 46, 0, 1, 1, 0, 3], [0, 0, 0, 1, 0, 3]]
noncomputable abbrev aiShapes : List (List Nat) := [[48, 0, 48, 1, 0, 3]]
noncomputable abbrev popShapes : List (List Nat) := [[46, 0, 1, 1, 0, 3], [0, 0, 1, 0, 3]]
theorem rest_some {tx : Str} {pos c : Nat} (h : tx.cps[pos]? = some c) : restAt tx pos = c :: restAt tx (pos + 1) := by
  unfold restAt
  have h' : tx.cps.toList[pos]? = some c := by rw [Array.getElem?_toList]; exact h
  obtain ⟨hl, he⟩ := List.getElem?_eq_some_iff.mp h'
  rw [List.drop_eq_getElem_cons hl, he]
theorem rest_none {tx : Str} {pos : Nat} (h : tx.cps[pos]? = none) : restAt tx pos = [] := by
  unfold restAt
  rw [List.drop_eq_nil_iff, Array.length_toList]
  rw [Array.getElem?_eq_none_iff] at h
  exact h
theorem at_lt {tx : Str} {pos c : Nat} (h : tx.cps[pos]? = some c) : pos < tx.length := by
  obtain ⟨hl, _⟩ := Array.getElem?_eq_some_iff.mp h
  exact hl
theorem cat_list (x : Str) (c : Nat) : (x ++ (⟨#[c]⟩ : Str)).cps.toList = x.cps.toList ++ [c] := by simp [Str.cps_append]
theorem strOf_list (x : Str) : strOf x.cps.toList = x := by obtain ⟨⟨a⟩⟩ := x; rfl
theorem add_len {tok : Str} {c pos : Nat} {tx : Str} (hl : tx.length ≤ sizeLine) (ht : tok.length ≤ pos) (h : pos < tx.length) : (tok ++ (⟨#[c]⟩ : Str)).length ≤ pos + 1 ∧ (tok ++ (⟨#[c]⟩ : Str)).length ≤ sizeLine := by
  have e : (tok ++ (⟨#[c]⟩ : Str)).length = tok.length + 1 := by
    show (tok ++ (⟨#[c]⟩ : Str)).cps.size = _
    rw [Str.cps_append]
    simp [Str.length]
  constructor <;> (run_tac om)
theorem add_nil (tok : Str) : tok ++ (⟨#[]⟩ : Str) = tok := by apply Str.ext'; simp [Str.cps_append]
theorem lx_step (stop : Nat → Bool) (c : Nat) (l acc : List Nat) (hs : stop c = false) (h : c ≠ 92) :
    lx stop (c :: l) acc = ⟨(lx stop l (acc ++ [c])).tok, (lx stop l (acc ++ [c])).cons + 1, (lx stop l (acc ++ [c])).nls + nl c, (lx stop l (acc ++ [c])).ret⟩ := by
  cases l <;> simp [lx, hs, h]
theorem lx_stop (stop : Nat → Bool) (c : Nat) (l acc : List Nat) (hs : stop c = true) : lx stop (c :: l) acc = ⟨acc, 1, nl c, true⟩ := by
  cases l <;> simp [lx, hs]
theorem lx_esc (stop : Nat → Bool) (e : Nat) (l acc : List Nat) (hs : stop 92 = false) :
    lx stop (92 :: e :: l) acc = ⟨(lx stop l (acc ++ [e])).tok, (lx stop l (acc ++ [e])).cons + 2, (lx stop l (acc ++ [e])).nls + nl e, (lx stop l (acc ++ [e])).ret⟩ := by
  simp [lx, hs]
noncomputable def readQ (P : Params) (a : LA) (tx : Str) (pos : Nat) (ln : Int) (pb : List PySem.Value) (T : Cells) (GT : GL) (r : Result) (H : HS) : Prop :=
  match tx.cps[pos]? with
  | none => Rets (.s ⟨#[]⟩) (lexV P a tx pos ln pb) T GT r H
  | some c => Rets (.s ⟨#[c]⟩) (lexV P a tx (pos + 1) (ln + nl c) pb) T GT r H
section
variable {P : Params} {a : LA} {tx : Str} {pos : Nat} {ln : Int} {pb : List PySem.Value} {T : Cells} {GT : GL} {r : Result} {H : HS}
theorem readQ_none (e : tx.cps[pos]? = none) (h : Rets (.s ⟨#[]⟩) (lexV P a tx pos ln pb) T GT r H) : readQ P a tx pos ln pb T GT r H := by unfold readQ; rw [e]; exact h
theorem readQ_some {c : Nat} (e : tx.cps[pos]? = some c) (h : Rets (.s ⟨#[c]⟩) (lexV P a tx (pos + 1) (ln + nl c) pb) T GT r H) : readQ P a tx pos ln pb T GT r H := by unfold readQ; rw [e]; exact h
theorem readQ_open (h : readQ P a tx pos ln pb T GT r H) : (tx.cps[pos]? = none ∧ ∃ k J, r = .ok (.ret (.str ⟨#[]⟩ k)) ∧ H = ⟨build (lexV P a tx pos ln pb) J T, GT⟩) ∨
    ∃ c, tx.cps[pos]? = some c ∧ ∃ k J, r = .ok (.ret (.str ⟨#[c]⟩ k)) ∧ H = ⟨build (lexV P a tx (pos + 1) (ln + nl c) pb) J T, GT⟩ := by
  unfold readQ at h
  split at h
  · rename_i e
    obtain ⟨k, _, J, h1, h2⟩ := h.open
    exact .inl ⟨e, k, J, h1, h2⟩
  · rename_i c e
    obtain ⟨k, _, J, h1, h2⟩ := h.open
    exact .inr ⟨c, e, k, J, h1, h2⟩
end
section
variable {w : World} {b1 b2 : Bool} {h₀ : Heap} {d : Drawn} {os : OsState} {hk : KT.Holds h₀ 1 0 (kt1 (W2 w b1 b2).params)} {hN : h₀.objs.size ≤ 281}
noncomputable def ReadOk (C : Cx) (P : Params) : Prop := ∀ (a : LA) (tx : Str) (pos : Nat) (ln : Int) (pb : List PySem.Value), tx.length ≤ sizeLine → ∀ B, okB rdShapes B = true → Sp C (.call (.ref 203) ⟨[.ref (a.pX + 281)], []⟩) B (lexV P a tx pos ln pb) noP (readQ P a tx pos ln pb)
noncomputable def gtE (a : LA) (pF pI pM : Nat) (tok : Str) (ch : List (VV × VV)) : Vs :=
  [(pF + 281, ⟨.t "frame", none, .dict ([(.s sSelf, .r (a.pX + 281)), (.s sToken, .s tok), (.s sFiter, .r (pI + 281))] ++ ch)⟩),
   (pI + 281, ⟨.t "callable_iterator", none, .fields [.none, .none, .b true]⟩),
   (pM + 281, ⟨.t "method", none, .fields [.r 203, .r (a.pX + 281)]⟩)]
structure InP where
  P : Params
  a : LA
  pF : Nat
  pI : Nat
  pM : Nat
  tx : Str
  pb : List PySem.Value
noncomputable def InP.vs (I : InP) (tok ch : Str) (pos : Nat) (ln : Int) : Vs := gtV I.a I.pF I.pI I.pM tok [(.s sCh, .s ch)] ++ lexV I.P I.a I.tx pos ln I.pb
noncomputable def InP.vsE (I : InP) (tok ch : Str) (pos : Nat) (ln : Int) : Vs := gtE I.a I.pF I.pI I.pM tok [(.s sCh, .s ch)] ++ lexV I.P I.a I.tx pos ln I.pb
noncomputable def InP.fin (I : InP) (o : LX) (pos : Nat) (ln : Int) (T : Cells) (GT : GL) (r : Result) (H : HS) : Prop :=
  ∃ ch, (o.ret = true ∧ Rets (.s (strOf o.tok)) (I.vs (strOf o.tok) ch (pos + o.cons) (ln + o.nls)) T GT r H) ∨ (o.ret = false ∧ Flows .next (I.vsE (strOf o.tok) ch (pos + o.cons) (ln + o.nls)) T GT r H)
noncomputable def InP.post (I : InP) (stop : Nat → Bool) (pos : Nat) (ln : Int) (tok : Str) : Cells → GL → Result → HS → Prop := I.fin (lx stop (restAt I.tx pos) tok.cps.toList) pos ln
section
variable {I : InP} {stop : Nat → Bool} {pos : Nat} {ln : Int} {tok : Str} {T : Cells} {GT : GL} {r : Result} {H : HS}
theorem InP.shift {o o' : LX} {pos' : Nat} {ln' : Int} (h : I.fin o' pos' ln' T GT r H) (e1 : o.tok = o'.tok) (e2 : pos + o.cons = pos' + o'.cons) (e3 : ln + o.nls = ln' + o'.nls) (e4 : o.ret = o'.ret) : I.fin o pos ln T GT r H := by
  unfold InP.fin at h ⊢
  rw [e1, e2, e3, e4]
  exact h
theorem InP.step1 {c : Nat} (hc : I.tx.cps[pos]? = some c) (hs : stop c = false) (h92 : c ≠ 92) (h : I.post stop (pos + 1) (ln + nl c) (tok ++ (⟨#[c]⟩ : Str)) T GT r H) : I.post stop pos ln tok T GT r H := by
  unfold InP.post at h ⊢
  rw [cat_list] at h
  rw [rest_some hc, lx_step stop c _ _ hs h92]
  refine InP.shift h rfl ?_ ?_ rfl
  · dsimp only; (run_tac om)
  · dsimp only; push_cast; (run_tac om)
theorem InP.step2 {e : Nat} (hc : I.tx.cps[pos]? = some 92) (hd : I.tx.cps[pos + 1]? = some e) (hs : stop 92 = false) (h : I.post stop (pos + 1 + 1) (ln + nl 92 + nl e) (tok ++ (⟨#[e]⟩ : Str)) T GT r H) : I.post stop pos ln tok T GT r H := by
  unfold InP.post at h ⊢
  rw [cat_list] at h
  rw [rest_some hc, rest_some hd, lx_esc stop e _ _ hs]
  refine InP.shift h rfl ?_ ?_ rfl
  · dsimp only; (run_tac om)
  · dsimp only; rw [show nl 92 = 0 from rfl]; push_cast; (run_tac om)
theorem InP.stop1 {c : Nat} (hc : I.tx.cps[pos]? = some c) (hs : stop c = true) {ch : Str} (h : Rets (.s tok) (I.vs tok ch (pos + 1) (ln + nl c)) T GT r H) : I.post stop pos ln tok T GT r H := by
  unfold InP.post InP.fin
  rw [rest_some hc, lx_stop stop c _ _ hs]
  refine ⟨ch, .inl ⟨rfl, ?_⟩⟩
  dsimp only
  rw [strOf_list]
  exact h
theorem InP.end0 (hc : I.tx.cps[pos]? = none) {ch : Str} (h : Flows .next (I.vsE tok ch pos ln) T GT r H) : I.post stop pos ln tok T GT r H := by
  unfold InP.post InP.fin
  rw [rest_none hc]
  refine ⟨ch, .inr ⟨rfl, ?_⟩⟩
  simp only [lx]
  rw [strOf_list]
  simpa using h
theorem InP.endEsc (hc : I.tx.cps[pos]? = some 92) (hs : stop 92 = false) (hd : I.tx.cps[pos + 1]? = none) (h : I.post stop (pos + 1) (ln + nl 92) tok T GT r H) : I.post stop pos ln tok T GT r H := by
  unfold InP.post at h ⊢
  rw [rest_none hd] at h
  rw [rest_some hc, rest_none hd]
  have e92 : nl 92 = 0 := rfl
  refine InP.shift h ?_ ?_ ?_ ?_ <;> simp [lx, hs, e92]
end
end
end Mine
end -- M3
section -- M4
set_option backward.match.sparseCases false
set_option genSizeOf false
set_option genInjectivity false
open PySem PySem.W PySem.W.X PySem.Builtin PySem.Builtin.Str
namespace Mine
noncomputable def isWs (c : Nat) : Bool := c == 10 || c == 9 || c == 13 || c == 32
theorem in_ws (c : Nat) : (!(occurrences sWs (⟨#[c]⟩ : PySem.Str) 0 sWs.length 1).isEmpty) = isWs c := by
  rw [StrLaws.found_one]
  unfold isWs sWs
  rw [Bool.eq_iff_iff]
  simp
  simp only [eq_comm, or_assoc]
noncomputable def isQ (c : Nat) : Bool := c == 34
noncomputable def LX.plus (o : LX) (k j : Nat) : LX := ⟨o.tok, o.cons + k, o.nls + j, o.ret⟩
noncomputable def outer : List Nat → LX
  | [] => ⟨[], 0, 0, false⟩
  | c :: l => if isWs c then (outer l).plus 1 (nl c)
    else if c = 34 then (lx isQ l []).plus 1 (nl c)
    else if c = 92 then (match l with
      | [] => ⟨[], 1, 0, false⟩
      | d :: l' => (lx isWs l' [d]).plus 2 (nl d))
    else (lx isWs l [c]).plus 1 (nl c)
noncomputable def InOk (C : Cx) (I : InP) (st : Stmt) (stop : Nat → Bool) (fuel : Nat) : Prop := ∀ (pos : Nat) (ln : Int) (tok ch : Str), I.tx.length < pos + fuel → pos ≤ I.tx.length → tok.length ≤ pos →
  ∀ B, okB inShapes B = true → Sp C (forOf I.P st (I.pF + 281) (I.pI + 281)) B (I.vs tok ch pos ln) noP (I.post stop pos ln tok)
end Mine
end -- M4
section -- M5
set_option backward.match.sparseCases false
set_option genSizeOf false
set_option genInjectivity false
open PySem PySem.W PySem.W.X
namespace Mine
theorem outer_ws (c : Nat) (l : List Nat) (hw : isWs c = true) : outer (c :: l) = (outer l).plus 1 (nl c) := by cases l <;> simp [outer, hw]
theorem outer_q (l : List Nat) : outer (34 :: l) = (lx isQ l []).plus 1 (nl 34) := by
  have : isWs 34 = false := rfl
  cases l <;> simp [outer, this]
theorem outer_u (c : Nat) (l : List Nat) (hw : isWs c = false) (hq : c ≠ 34) (hb : c ≠ 92) : outer (c :: l) = (lx isWs l [c]).plus 1 (nl c) := by cases l <;> simp [outer, hw, hq, hb]
theorem outer_b (d : Nat) (l : List Nat) : outer (92 :: d :: l) = (lx isWs l [d]).plus 2 (nl d) := by
  have : isWs 92 = false := rfl
  simp [outer, this]
theorem outer_b0 : outer [92] = ⟨[], 1, 0, false⟩ := by
  have : isWs 92 = false := rfl
  simp [outer, this]
noncomputable def okChs (chs : List (VV × VV)) : Prop := chs = [] ∨ ∃ ch, chs = [(.s sCh, .s ch)]
noncomputable def InP.vo (I : InP) (tok : Str) (chs : List (VV × VV)) (pos : Nat) (ln : Int) : Vs := gtV I.a I.pF I.pI I.pM tok chs ++ lexV I.P I.a I.tx pos ln I.pb
noncomputable def InP.voE (I : InP) (tok : Str) (chs : List (VV × VV)) (pos : Nat) (ln : Int) : Vs := gtE I.a I.pF I.pI I.pM tok chs ++ lexV I.P I.a I.tx pos ln I.pb
noncomputable def InP.ofin (I : InP) (o : LX) (pos : Nat) (ln : Int) (T : Cells) (GT : GL) (r : Result) (H : HS) : Prop :=
  (o.ret = true ∧ ∃ ch, Rets (.s (strOf o.tok)) (I.vo (strOf o.tok) [(.s sCh, .s ch)] (pos + o.cons) (ln + o.nls)) T GT r H) ∨
  (o.ret = false ∧ ∃ chs, okChs chs ∧ Flows .next (I.voE (strOf o.tok) chs (pos + o.cons) (ln + o.nls)) T GT r H)
noncomputable def InP.opost (I : InP) (pos : Nat) (ln : Int) : Cells → GL → Result → HS → Prop := I.ofin (outer (restAt I.tx pos)) pos ln
section
variable {I : InP} {pos : Nat} {ln : Int} {T : Cells} {GT : GL} {r : Result} {H : HS}
theorem InP.oshift {o o' : LX} {pos' : Nat} {ln' : Int} (h : I.ofin o' pos' ln' T GT r H) (e1 : o.tok = o'.tok) (e2 : pos + o.cons = pos' + o'.cons) (e3 : ln + o.nls = ln' + o'.nls) (e4 : o.ret = o'.ret) : I.ofin o pos ln T GT r H := by
  unfold InP.ofin at h ⊢
  rw [e1, e2, e3, e4]
  exact h
theorem InP.o_end (hc : I.tx.cps[pos]? = none) {chs : List (VV × VV)} (hch : okChs chs) (h : Flows .next (I.voE ⟨#[]⟩ chs pos ln) T GT r H) : I.opost pos ln T GT r H := by
  unfold InP.opost InP.ofin
  rw [rest_none hc]
  refine .inr ⟨rfl, chs, hch, ?_⟩
  have e : ln + ((outer []).nls : Int) = ln := by show ln + ((0 : Nat) : Int) = ln; (run_tac om)
  rw [e]
  exact h
theorem InP.o_ws {c : Nat} (hc : I.tx.cps[pos]? = some c) (hw : isWs c = true) (h : I.opost (pos + 1) (ln + nl c) T GT r H) : I.opost pos ln T GT r H := by
  run_tac sq0
  unfold InP.opost at h ⊢
  rw [rest_some hc, outer_ws _ _ hw]
  refine InP.oshift h rfl ?_ ?_ rfl
  · show pos + ((outer (restAt I.tx (pos + 1))).cons + 1) = _; (run_tac om)
  · show ln + (((outer (restAt I.tx (pos + 1))).nls + nl c : Nat) : Int) = _; push_cast; (run_tac om)
  run_tac sq
theorem InP.o_in {o' : LX} {pos' : Nat} {ln' : Int} (h : I.ofin o' pos' ln' T GT r H) (e : outer (restAt I.tx pos) = o'.plus (pos' - pos) (ln' - ln).toNat) (h1 : pos ≤ pos') (h2 : ln ≤ ln') : I.opost pos ln T GT r H := by
  unfold InP.opost
  rw [e]
  refine InP.oshift h rfl ?_ ?_ rfl
  · show pos + (o'.cons + (pos' - pos)) = _; (run_tac om)
  · show ln + ((o'.nls + (ln' - ln).toNat : Nat) : Int) = _; push_cast; (run_tac om)
theorem InP.o_q (hc : I.tx.cps[pos]? = some 34) : outer (restAt I.tx pos) = (lx isQ (restAt I.tx (pos + 1)) []).plus (pos + 1 - pos) (ln + nl 34 - ln).toNat := by
  rw [rest_some hc, outer_q]
  have : (ln + nl 34 - ln).toNat = nl 34 := by (run_tac om)
  rw [this, Nat.add_sub_cancel_left]
theorem InP.o_u {c : Nat} (hc : I.tx.cps[pos]? = some c) (hw : isWs c = false) (hq : c ≠ 34) (hb : c ≠ 92) : outer (restAt I.tx pos) = (lx isWs (restAt I.tx (pos + 1)) [c]).plus (pos + 1 - pos) (ln + nl c - ln).toNat := by
  rw [rest_some hc, outer_u _ _ hw hq hb]
  have : (ln + nl c - ln).toNat = nl c := by (run_tac om)
  rw [this, Nat.add_sub_cancel_left]
theorem InP.o_b {d : Nat} (hc : I.tx.cps[pos]? = some 92) (hd : I.tx.cps[pos + 1]? = some d) : outer (restAt I.tx pos) = (lx isWs (restAt I.tx (pos + 1 + 1)) [d]).plus (pos + 1 + 1 - pos) (ln + nl 92 + nl d - ln).toNat := by
  rw [rest_some hc, rest_some hd, outer_b]
  have : (ln + nl 92 + nl d - ln).toNat = nl d := by
    have : nl 92 = 0 := rfl
    (run_tac om)
  rw [this]
  have : pos + 1 + 1 - pos = 2 := by (run_tac om)
  rw [this]
theorem InP.o_b0 (hc : I.tx.cps[pos]? = some 92) (hd : I.tx.cps[pos + 1]? = none) : outer (restAt I.tx pos) = (lx isWs (restAt I.tx (pos + 1)) []).plus (pos + 1 - pos) (ln + nl 92 - ln).toNat := by
  rw [rest_some hc, rest_none hd, outer_b0]
  have : (ln + nl 92 - ln).toNat = 0 := by
    have : nl 92 = 0 := rfl
    (run_tac om)
  rw [this, Nat.add_sub_cancel_left]
  rfl
end
noncomputable def OutOk (C : Cx) (I : InP) (fuel : Nat) : Prop := ∀ (pos : Nat) (ln : Int) (chs : List (VV × VV)), okChs chs → I.tx.length < pos + fuel → pos ≤ I.tx.length →
  ∀ B, okB ouShapes B = true → Sp C (gtFor I.P (I.pF + 281) (I.pI + 281)) B (I.vo ⟨#[]⟩ chs pos ln) noP (I.opost pos ln)
end Mine
end -- M5
section -- M8
set_option backward.match.sparseCases false
set_option genSizeOf false
set_option genInjectivity false
open PySem PySem.W PySem.W.X
namespace Mine
noncomputable def sumV (pS pI pL : Nat) (tot : Int) (idx : Nat) (vs : List PySem.Value) : Vs :=
  [(pS + 281, ⟨.t "list", none, .seq [.i tot]⟩), (pI + 281, ⟨.t "list_iterator", none, .fields [.r (pL + 281), .i idx]⟩), (pL + 281, ⟨.t "list", none, .seqV vs⟩)]
noncomputable def sumC (pS pI : Nat) (st : Int) : Code := .builtin "sum.loop" ⟨[.ref (pI + 281), .ref (pS + 281), .int st 0, .int 0 0], []⟩
noncomputable def sumPost (pL : Nat) (tot : Int) (vs : List PySem.Value) (idx : Nat) (ns : List Int) : Cells → GL → Result → HS → Prop := Rets (.i (tot + (ns.drop idx).sum)) [(pL + 281, ⟨.t "list", none, .seqV vs⟩)]
theorem vs_at {vs : List PySem.Value} {ns : List Int} (h : vs.map vv = ns.map VV.i) (i : Nat) : (vs[i]? = none ∧ ns.drop i = []) ∨ ∃ x k, vs[i]? = some (.int x k) ∧ ns.drop i = x :: ns.drop (i + 1) ∧ i < vs.length := by
  run_tac sq0
  have hl : vs.length = ns.length := by have := congrArg List.length h; simpa using this
  by_cases hi : i < vs.length
  · right
    have h1 : (vs.map vv)[i]? = (ns.map VV.i)[i]? := by rw [h]
    rw [List.getElem?_map, List.getElem?_map, List.getElem?_eq_getElem hi, List.getElem?_eq_getElem (hl ▸ hi)] at h1
    simp only [Option.map_some, Option.some.injEq] at h1
    obtain ⟨k, e⟩ := vv_i h1
    exact ⟨_, k, by rw [List.getElem?_eq_getElem hi, e], List.drop_eq_getElem_cons (hl ▸ hi), hi⟩
  · left
    exact ⟨List.getElem?_eq_none (by (run_tac om)), by rw [List.drop_eq_nil_iff]; (run_tac om)⟩
  run_tac sq
noncomputable def SumOk (C : Cx) (pS pI pL : Nat) (vs : List PySem.Value) (ns : List Int) (st : Int) (k : Nat) : Prop := ∀ (tot : Int) (idx : Nat), vs.length < idx + k ∧ idx ≤ vs.length →
  ∀ B, okB smShapes B = true → Sp C (sumC pS pI st) B (sumV pS pI pL tot idx vs) noP (sumPost pL tot vs idx ns)
theorem sumPost_step {pL : Nat} {tot : Int} {vs : List PySem.Value} {idx : Nat} {ns : List Int} {x : Int} {T : Cells} {GT : GL} {r : Result} {H : HS} (e : ns.drop idx = x :: ns.drop (idx + 1)) (h : sumPost pL (tot + x) vs (idx + 1) ns T GT r H) : sumPost pL tot vs idx ns T GT r H := by
  unfold sumPost at h ⊢
  rw [e, List.sum_cons, ← Int.add_assoc]
  exact h
theorem sumPost_end {pL : Nat} {tot : Int} {vs : List PySem.Value} {idx : Nat} {ns : List Int} {T : Cells} {GT : GL} {r : Result} {H : HS} (e : ns.drop idx = []) (h : Rets (.i tot) [(pL + 281, ⟨.t "list", none, .seqV vs⟩)] T GT r H) : sumPost pL tot vs idx ns T GT r H := by
  unfold sumPost
  rw [e]
  simpa using h
end Mine
end -- M8
section -- M9
set_option backward.match.sparseCases false
set_option genSizeOf false
set_option genInjectivity false
open PySem PySem.W PySem.W.X
namespace Mine
noncomputable def sInit : Str := ⟨#[95, 105, 110, 105, 116, 105, 97, 108, 95, 115, 105, 122, 101]⟩
noncomputable def accV (pA pAD : Nat) (as : List Addr) (init : Int) : Vs :=
  [(pA + 281, ⟨.r 178, some (pAD + 281), .seqV (as.map .ref)⟩), (pAD + 281, ⟨.t "dict", none, .dict [(.s sInit, .i init)]⟩)]
noncomputable def tupO (f s : Str) (k j : Tok) : Obj → Prop := fun o => ∃ ep, o = { cls := .type "tuple", data := .seq #[.str f k, .str s j] ep }
inductive Tups (T : Cells) : List Addr → List (Str × Str) → Prop where
  | nil : Tups T [] []
  | cons {a : Addr} {q : Str × Str} {as : List Addr} {ps : List (Str × Str)} (o : Obj) (h : (a, o) ∈ T) (k j : Tok) (ho : tupO q.1 q.2 k j o) (r : Tups T as ps) : Tups T (a :: as) (q :: ps)
end Mine
end -- M9
section -- M10
set_option backward.match.sparseCases false
set_option genSizeOf false
set_option genInjectivity false
open PySem PySem.W PySem.W.X
namespace Mine
noncomputable def callArg0 : Stmt → Expr
  | .Return (some (.Call _ (a :: _) _ _)) _ => a
  | _ => default
noncomputable def genScope : Expr → Scope
  | .GeneratorExp _ _ sc _ => sc
  | _ => default
noncomputable def lenE (P : Params) : Expr := callArg0 (stmtAt (fdOf ((kt1 P).get 145)).body 0)
noncomputable def strE (P : Params) : Expr := callArg0 (stmtAt (fdOf ((kt1 P).get 152)).body 0)
noncomputable def genEnv (e : Expr) (pFr : Nat) (cv : PySem.Value) (q : Str) : Env := { scope := genScope e, locals := pFr + 281, globals := 3, cells := [], qual := q, func := none, code := cv, frame := some (pFr + 281), builtins := 0 }
noncomputable def genLoop (e : Expr) (pI pFr : Nat) (cv : PySem.Value) (q : Str) : Code := .compLoop e 0 (.ref (pI + 281)) .none (genEnv e pFr cv q)
noncomputable def gcode : GenState → Code
  | .suspended _ _ c _ _ _ => c
  | _ => .block [] default
noncomputable def gkont : GenState → Resume → Sem PySem.Fin
  | .suspended k _ _ _ _ _ => k
  | _ => fun _ => .unsupported ""
noncomputable def glive : GenState → List PySem.Value
  | .suspended _ l _ _ _ _ => l
  | _ => []
noncomputable def gpos : GenState → Pos
  | .suspended _ _ _ p _ _ => p
  | _ => default
noncomputable def cenv : Code → Env
  | .compLoop _ _ _ _ e => e
  | _ => default
noncomputable def gqual (x : GenState) : Str := (cenv (gcode x)).qual
theorem susp_of {x : GenState} {c : Code} (h : x = .suspended (gkont x) (glive x) c (gpos x) [] false) (hk : gkont x (.send .none) = .pure (.again c)) : Susp x c := ⟨_, _, _, h, hk⟩
noncomputable def sDot0 : Str := ⟨#[46, 48]⟩
noncomputable def sFws : Str := ⟨#[102, 119, 115]⟩
noncomputable def sPart : Str := ⟨#[112, 97, 114, 116]⟩
noncomputable def sGen : Str := ⟨#[60, 103, 101, 110, 101, 120, 112, 114, 62]⟩
noncomputable def sizeOf2 (ps : List (Str × Str)) : Nat := (ps.map fun q => q.1.length + q.2.length).sum
noncomputable def genV (pG pFr pI pA pAD : Nat) (as : List Addr) (g idx : Nat) (gq : Str) (fs : List (VV × VV)) : Vs :=
  [(pG + 281, ⟨.t "generator", none, .fields [.i g, .s sGen, .s gq]⟩), (pFr + 281, ⟨.t "frame", none, .dict ((.s sDot0, .r (pI + 281)) :: fs)⟩),
   (pI + 281, ⟨.t "list_iterator", none, .fields [.r (pA + 281), .i idx]⟩), (pA + 281, ⟨.r 178, some (pAD + 281), .seqV (as.map .ref)⟩)]
structure GA where
  pS : Nat
  pG : Nat
  pFr : Nat
  pI : Nat
  cv : PySem.Value
  pA : Nat
  pAD : Nat
  as : List Addr
  g : Nat
  gq : Str
noncomputable def GA.vs (a : GA) (tot : Int) (idx : Nat) (f s : Str) : Vs := (a.pS + 281, ⟨.t "list", none, .seq [.i tot]⟩) :: genV a.pG a.pFr a.pI a.pA a.pAD a.as a.g idx a.gq [(.s sFws, .s f), (.s sPart, .s s)]
noncomputable def GA.acc (a : GA) : Vs := [(a.pA + 281, ⟨.r 178, some (a.pAD + 281), .seqV (a.as.map .ref)⟩)]
noncomputable def GA.c (a : GA) : Code := .builtin "sum.loop" ⟨[.ref (a.pG + 281), .ref (a.pS + 281), .int 0 0, .int 0 0], []⟩
theorem tups_at {T : Cells} {as : List Addr} {ps : List (Str × Str)} (h : Tups T as ps) (i : Nat) : (as[i]? = none ∧ ps.drop i = []) ∨ ∃ a q o k j, as[i]? = some a ∧ ps.drop i = q :: ps.drop (i + 1) ∧ (a, o) ∈ T ∧ tupO q.1 q.2 k j o ∧ i < ps.length := by
  run_tac sq0
  (
  induction h generalizing i with
  | nil => left; simp
  | @cons a q as ps o h k j ho r ih =>
    cases i with
    | zero => right; exact ⟨a, q, o, k, j, rfl, rfl, h, ho, by simp⟩
    | succ i =>
      rcases ih i with ⟨h1, h2⟩ | ⟨a', q', o', k', j', h1, h2, h3, h4, h5⟩
      · left; exact ⟨by simpa using h1, by simpa using h2⟩
      · right; exact ⟨a', q', o', k', j', by simpa using h1, by simpa using h2, h3, h4, by simp; (run_tac om)⟩
  )
  run_tac sq
theorem fits2 {a b : Int} (h1 : 0 ≤ a) (h2 : a < 2 ^ 63) (h3 : 0 ≤ b) (h4 : b < 2 ^ 63) : ((decide (-(2 ^ 63) ≤ a) && decide (a < 2 ^ 63)) && (decide (-(2 ^ 63) ≤ b) && decide (b < 2 ^ 63))) = true := by
  simp; (run_tac om)
noncomputable def GA.post (a : GA) (tot : Int) (rest : List (Str × Str)) : Cells → GL → Result → HS → Prop := Rets (.i (tot + sizeOf2 rest)) a.acc
theorem GA.step {a : GA} {tot x : Int} {q : Str × Str} {rest : List (Str × Str)} {T : Cells} {GT : GL} {r : Result} {H : HS} (e : x = (q.1.length : Int) + q.2.length) (h : a.post (tot + x) rest T GT r H) : a.post tot (q :: rest) T GT r H := by
  have : tot + x + sizeOf2 rest = tot + sizeOf2 (q :: rest) := by
    subst e; unfold sizeOf2; simp; (run_tac om)
  unfold GA.post at h ⊢
  rw [← this]; exact h
theorem GA.last {a : GA} {tot : Int} {T : Cells} {GT : GL} {r : Result} {H : HS} (h : Rets (.i tot) a.acc T GT r H) : a.post tot [] T GT r H := by
  unfold GA.post sizeOf2
  simpa using h
noncomputable def lnV (pA pAD : Nat) (as : List Addr) (tb : List PySem.Value) : Vs := [(pA + 281, ⟨.r 178, some (pAD + 281), .seqV (as.map .ref)⟩), (pAD + 281, ⟨.t "dict", none, .dict [(.s sInit, .i 0)]⟩), (140, ⟨.none, none, .exact (.fields ⟨tb⟩)⟩)]
noncomputable def lenT (tb : List PySem.Value) : Prop := tb = [] ∨ ∃ c, tb = [.int 93 0, .int 19 0, .ref c]
noncomputable def lnQ (pA pAD : Nat) (as : List Addr) (ps : List (Str × Str)) (T : Cells) (GT : GL) (r : Result) (H : HS) : Prop := ∃ tb, lenT tb ∧ Rets (.i (sizeOf2 ps)) (lnV pA pAD as tb) T GT r H
noncomputable def sLenGq : Str := ⟨#[95, 65, 99, 99, 117, 109, 117, 108, 97, 116, 111, 114, 46, 95, 95, 108, 101, 110, 95, 95, 46, 60, 108, 111, 99, 97, 108, 115, 62, 46, 60, 103, 101, 110, 101, 120, 112, 114, 62]⟩
theorem mem_dropC {q : Addr × Obj} : ∀ {l : Cells} {k : Nat}, q ∈ dropC l k → q ∈ l := by
  intro l k h
  unfold dropC at h
  induction k generalizing l with
  | zero => exact h
  | succ k ih => cases l with
    | nil => cases h
    | cons x l => exact .tail _ (ih h)
theorem Tups.sub {T T' : Cells} {as : List Addr} {ps : List (Str × Str)} (h : Tups T as ps) (hs : ∀ q ∈ T, q ∈ T') : Tups T' as ps := by
  induction h with
  | nil => exact .nil
  | cons o h k j ho r ih => exact .cons o (hs _ h) k j ho ih
theorem tups_up {T T' : Cells} {as : List Addr} {ps : List (Str × Str)} (k : Nat) (h : Tups T as ps) (e : dropC T' k = T) : Tups T' as ps := h.sub fun _ hq => mem_dropC (e ▸ hq)
noncomputable def GSumOk (C : Cx) (P : Params) (a : GA) (ps : List (Str × Str)) (q : Str) (k : Nat) : Prop := ∀ (x : GenState) (tot : Int) (idx : Nat) (f s : Str), Susp x (genLoop (lenE P) a.pI a.pFr a.cv q) → ps.length < idx + k ∧ idx ≤ ps.length → 0 ≤ tot → tot + sizeOf2 (ps.drop idx) < 2 ^ 60 →
  ∀ B, okB gsShapes B = true → SpG1 C a.c B (a.vs tot idx f s) a.g x (fun T => Tups T a.as ps) (a.post tot (ps.drop idx))
end Mine
end -- M10
section -- M12
set_option backward.match.sparseCases false
set_option genSizeOf false
set_option genInjectivity false
open PySem PySem.W PySem.W.X
namespace Mine
noncomputable def GA.sv (a : GA) (xs : List PySem.Value) (idx : Nat) (f s : Str) : Vs := (a.pS + 281, ⟨.t "list", none, .seqV xs⟩) :: genV a.pG a.pFr a.pI a.pA a.pAD a.as a.g idx a.gq [(.s sFws, .s f), (.s sPart, .s s)]
noncomputable def GA.sc (a : GA) : Code := .builtin "list.extend.loop" ⟨[.ref (a.pS + 281), .ref (a.pG + 281), .ref (a.pS + 281)], []⟩
noncomputable def catS (ps : List (Str × Str)) : List Str := ps.map fun q => q.1 ++ q.2
noncomputable def GA.sp (a : GA) (xs : List PySem.Value) (rest : List (Str × Str)) (T : Cells) (GT : GL) (r : Result) (H : HS) : Prop :=
  ∃ ys : List PySem.Value, ys.map vv = xs.map vv ++ (catS rest).map VV.s ∧ Rets (.r (a.pS + 281)) ((a.pS + 281, ⟨.t "list", none, .seqV ys⟩) :: a.acc) T GT r H
theorem concatR_app (xs : List PySem.Value) (v : PySem.Value) : PySem.W.R.concatR xs v = xs ++ [v] := by
  induction xs with
  | nil => rfl
  | cons x xs ih => show x :: PySem.W.R.concatR xs v = _; rw [ih]; rfl
theorem GA.sstep {a : GA} {xs : List PySem.Value} {q : Str × Str} {k : Tok} {rest : List (Str × Str)} {T : Cells} {GT : GL} {r : Result} {H : HS} (h : a.sp (PySem.W.R.concatR xs (.str (q.1 ++ q.2) k)) rest T GT r H) : a.sp xs (q :: rest) T GT r H := by
  obtain ⟨ys, e, h⟩ := h
  refine ⟨ys, ?_, h⟩
  rw [e]
  rw [concatR_app]
  simp [catS, vv]
theorem GA.slast {a : GA} {xs : List PySem.Value} {T : Cells} {GT : GL} {r : Result} {H : HS} (h : Rets (.r (a.pS + 281)) ((a.pS + 281, ⟨.t "list", none, .seqV xs⟩) :: a.acc) T GT r H) : a.sp xs [] T GT r H := ⟨xs, by simp [catS], h⟩
noncomputable def genStart (e : Expr) (pI pFr : Nat) (cv : PySem.Value) (q : Str) : Code := .compStart e 0 (.ref (pI + 281)) .none (genEnv e pFr cv q)
noncomputable def GA.cc (a : GA) : Code := .builtin "proto.collect" ⟨[.ref (a.pG + 281)], []⟩
noncomputable def coQ (a : GA) (ps : List (Str × Str)) (T : Cells) (GT : GL) (r : Result) (H : HS) : Prop :=
  ∃ (l : Nat) (ys : List PySem.Value), ys.map vv = (catS ps).map VV.s ∧ Rets (.r (l + 281)) ((l + 281, ⟨.t "list", none, .seqV ys⟩) :: a.acc) T GT r H
noncomputable def CollOk (C : Cx) (P : Params) (a : GA) (ps : List (Str × Str)) (q : Str) : Prop :=
  ∀ B, okB coShapes B = true → SpG1 C a.cc B (genV a.pG a.pFr a.pI a.pA a.pAD a.as a.g 0 a.gq []) a.g (.fresh (genStart (strE P) a.pI a.pFr a.cv q)) (fun T => Tups T a.as ps) (coQ a ps)
noncomputable def GStrOk (C : Cx) (P : Params) (a : GA) (ps : List (Str × Str)) (q : Str) (k : Nat) : Prop := ∀ (x : GenState) (xs : List PySem.Value) (idx : Nat) (f s : Str), Susp x (genLoop (strE P) a.pI a.pFr a.cv q) → ps.length < idx + k ∧ idx ≤ ps.length → xs.length + (ps.drop idx).length ≤ 1000 →
  ∀ B, okB coShapes B = true → SpG1 C a.sc B (a.sv xs idx f s) a.g x (fun T => Tups T a.as ps) (a.sp xs (ps.drop idx))
end Mine
end -- M12
section -- M15
set_option backward.match.sparseCases false
set_option genSizeOf false
set_option genInjectivity false
open PySem PySem.W PySem.W.X PySem.Builtin PySem.Builtin.Str
namespace Mine
section
variable {C : Cx} {Γ : Ctx} {p : Pos} {s : Shared}
theorem wp_of_any {α : Type} {m : Sem α} {Q : α → Pos → Shared → Prop} {E : PySem.Value → Pos → Shared → Prop} (h : wpAny (model C.prog C.w) (arOf Γ).in1 m (fun a s' => ∀ p', Q a p' s') (fun e s' => ∀ p', E e p' s') s) : Sem.wp C.M Γ m Q E p s :=
  Sem.wp_mono C.M Γ _ (fun _ p' _ h' => h' p') (fun _ p' _ h' => h' p') p s (h Γ p (arOf_in Γ))
end
theorem pyIter_gen' {prog : Program} {w : World} {A : Around} {E : PySem.Value → Shared → Prop} {s : Shared} {a : Addr} {Q : PySem.Value → Shared → Prop} (hT : s.TypeIs (.ref a) "generator") (h : Q (.ref a) s) : wpAny (model prog w) A (pyIter (.ref a)) Q E s := by
  refine wpAny_pyIter_slot hT slot_gen_iter (wpAny_call_entry slot_gen_iter hT entry_gen_iter ?_ (args_gen_iter _))
  show wpAny _ _ (ret (.ref a)) _ _ s
  exact wpAny_pure ⟨_, rfl, "generator", _, hT, slot_gen_next.lookup, h⟩
noncomputable def joC (k : Tok) (pG : Nat) : Code := .builtin "str.join" ⟨[.str ⟨#[]⟩ k, .ref (pG + 281)], []⟩
noncomputable def allS (ps : List (Str × Str)) : Str := glued ⟨#[]⟩ (catS ps)
noncomputable def joQ (a : GA) (ps : List (Str × Str)) (T : Cells) (GT : GL) (r : Result) (H : HS) : Prop := ∃ (l : Nat) (ys : List PySem.Value), Rets (.s (allS ps)) ((l + 281, ⟨.t "list", none, .seqV ys⟩) :: a.acc) T GT r H
theorem ok_join {B : List (Code × Pos)} (c : Code) (p : Pos) (hc : skN c = 5) (h : okB joShapes B = true) : okB coShapes ((c, p) :: B) = true :=
  okB_pre (pre := [5]) h rfl (by show skN c :: shN B = _; rw [hc]; rfl)
theorem vals_strs : ∀ {ys : List PySem.Value} {zs : List Str}, ys.map vv = zs.map VV.s → ∃ l : List (Str × Tok), ys = strValues l ∧ l.map (·.1) = zs
  | [], [], _ => ⟨[], rfl, rfl⟩
  | [], _ :: _, h => by simp at h
  | _ :: _, [], h => by simp at h
  | y :: ys, z :: zs, h => by
    simp only [List.map_cons, List.cons.injEq] at h
    obtain ⟨k, rfl⟩ := vv_s h.1
    obtain ⟨l, rfl, e⟩ := vals_strs h.2
    exact ⟨(z, k) :: l, rfl, by simp [e]⟩
theorem wp_entry {C : Cx} {Γ : Ctx} {args : Args} {b : Builtin} {id : String} (e : entryFor table id = some b) (hc : Γ.code = .builtin id args) {P : Result → Shared → Prop} {p : Pos} {s : Shared} (h : Sem.wp C.M Γ (b args) (Sem.finPost C.M Γ P) (fun e _ s' => P (.error e) s') p s) : wpCode C.M Γ P p s := by
  rw [wpCode_iff_wp, hc]
  show Sem.wp C.M Γ (match entryFor table id with | some b => b args | none => unsupported ((withoutEnding? id "#data").getD id)) _ _ p _
  rw [e]
  exact h
set_option maxHeartbeats 0 in
theorem join_ok {C : Cx} {P : Params} {a : GA} {ps : List (Str × Str)} {q : Str} {k : Tok} (hC : CollOk C P a ps q) (hl : tooLong ((catS ps).toArray.foldl (· + ·.length + (⟨#[]⟩ : Str).length) 0) = false) (hl2 : (allS ps).length ≤ sizeLine) :
    ∀ B, okB joShapes B = true → SpG1 C (joC k a.pG) B (genV a.pG a.pFr a.pI a.pA a.pAD a.as a.g 0 a.gq []) a.g (.fresh (genStart (strE P) a.pI a.pFr a.cv q)) (fun T => Tups T a.as ps) (joQ a ps) := by
  run_tac sq0
  intro B hB p T GT cells hc hP n t G h g D E
  have hc0 := hc
  obtain ⟨o, cs, rfl, ho, _⟩ := hc
  have hh : h.get? (a.pG + 281) = some o := D.own _ (.head _)
  obtain ⟨jv, J, eo⟩ := unov_ofT ho
  refine wp_entry PySem.F.entry_str_join rfl ?_
  show Sem.wp C.M _ («str.join» ⟨[.str ⟨#[]⟩ k, .ref (a.pG + 281)], []⟩) _ _ p _
  rw [join_tree_other, Sem.wp_bind']
  refine wp_of_any (wpAny_typeOf (T := "generator") ⟨o, hh, by rw [eo]; rfl⟩ fun p1 => ?_)
  rw [if_neg (by decide), Sem.wp_bind']
  refine wp_of_any (wpAny_tryCatch (pyIter_gen' ⟨o, hh, by rw [eo]; rfl⟩ fun p2 => ?_))
  rw [Sem.wp_bind']
  unfold collect
  rw [Sem.wp_bind', Sem.wp_runValue]
  refine wpCode_mono ?_ (hC _ (ok_join _ p2 (by rfl) hB) p2 T GT _ hc0 hP n t G h g D E)
  rintro r s' ⟨n', t', G', h', g', H', rfl, D', E', l, ys, hys, v, cells', rfl, hv, rfl, hcv⟩
  obtain rfl := vv_r hv
  dsimp only
  have hcv0 := hcv
  obtain ⟨o2, cs2, rfl, ho2, hcv2⟩ := hcv
  obtain ⟨jv2, J2, eo2⟩ := unov_ofT ho2
  have hh2 : h'.get? (l + 281) = some o2 := D'.own _ (.head _)
  obtain ⟨ll, rfl, hll⟩ := vals_strs hys
  rw [Sem.wp_bind']
  refine ⟨o2, hh2, ?_⟩
  rw [eo2]
  show Sem.wp C.M _ (joinTail ⟨#[]⟩ (strValues ll)) _ _ _ _
  rw [← hll] at hl
  have g0 : Gives (joinTail ⟨#[]⟩ (strValues ll)) (joinMade ⟨#[]⟩ ll) := by
    have g0 := gives_joinTail ⟨#[]⟩ ll hl
    cases ll with
    | nil => exact g0
    | cons p r => cases r with
      | nil => exact g0
      | cons q r' => exact g0
  refine wp_meets (Q := joQ a ps T GT) g0.meets ?_
  have fin : ∀ z kk tk, z = allS ps → Post C (joQ a ps T GT) (.ok (.ret (.str z kk))) ⟨h', g', C.d, tk + C.T0, C.os⟩ := by
    rintro z kk tk rfl
    exact ⟨n', tk, G', h', g', ⟨_, GT⟩, rfl, D', E', l, _, _, _, rfl, rfl, rfl, hcv0⟩
  have ez : glued ⟨#[]⟩ (ll.map (·.1)) = allS ps := by rw [hll]; rfl
  rcases ll with _ | ⟨q, _ | ⟨q2, r⟩⟩
  · exact ⟨by show (glued _ (List.map _ [])).length ≤ _; rw [ez]; exact hl2, by have := fin _ (t' + C.T0) (t' + 1) ez; rw [Nat.add_right_comm] at this; exact this⟩
  · exact fin _ _ _ (by rw [← ez]; rfl)
  · exact ⟨by show (glued _ _).length ≤ _; rw [ez]; exact hl2, by have := fin _ (t' + C.T0) (t' + 1) ez; rw [Nat.add_right_comm] at this; exact this⟩
  run_tac sq
end Mine
end -- M15
section -- M16
set_option backward.match.sparseCases false
set_option genSizeOf false
set_option genInjectivity false
open PySem PySem.W PySem.W.X
namespace Mine
noncomputable def stV (pA pAD : Nat) (as : List Addr) (tb : List PySem.Value) : Vs := [(pA + 281, ⟨.r 178, some (pAD + 281), .seqV (as.map .ref)⟩), (pAD + 281, ⟨.t "dict", none, .dict [(.s sInit, .i 0)]⟩), (147, ⟨.none, none, .exact (.fields ⟨tb⟩)⟩)]
noncomputable def strT (tb : List PySem.Value) : Prop := tb = [] ∨ ∃ c, tb = [.int 96 0, .int 32 0, .ref c]
noncomputable def stQ (pA pAD : Nat) (as : List Addr) (ps : List (Str × Str)) (T : Cells) (GT : GL) (r : Result) (H : HS) : Prop := ∃ tb, strT tb ∧ Rets (.s (allS ps)) (stV pA pAD as tb) T GT r H
noncomputable def fqual : GenState → Str
  | .fresh (.compStart _ _ _ _ e) => e.qual
  | _ => ⟨#[]⟩
noncomputable def joTok : Code → Tok
  | .builtin _ ⟨.str _ k :: _, _⟩ => k
  | _ => 0
noncomputable def sStrGq : Str := ⟨#[95, 65, 99, 99, 117, 109, 117, 108, 97, 116, 111, 114, 46, 95, 95, 115, 116, 114, 95, 95, 46, 60, 108, 111, 99, 97, 108, 115, 62, 46, 60, 103, 101, 110, 101, 120, 112, 114, 62]⟩
noncomputable def JoOk (C : Cx) (P : Params) (ps : List (Str × Str)) : Prop := ∀ (a : GA) (q : Str) (k : Tok), ∀ B, okB joShapes B = true → SpG1 C (joC k a.pG) B (genV a.pG a.pFr a.pI a.pA a.pAD a.as a.g 0 a.gq []) a.g (.fresh (genStart (strE P) a.pI a.pFr a.cv q)) (fun T => Tups T a.as ps) (joQ a ps)
end Mine
end -- M16
section -- M17
set_option backward.match.sparseCases false
set_option genSizeOf false
set_option genInjectivity false
open PySem PySem.W PySem.W.X
namespace Mine
noncomputable def sMaxlen : Str := ⟨#[95, 109, 97, 120, 108, 101, 110]⟩
noncomputable def sCws : Str := ⟨#[95, 99, 111, 110, 116, 105, 110, 117, 97, 116, 105, 111, 110, 95, 119, 115]⟩
noncomputable def sCwsLen : Str := ⟨#[95, 99, 111, 110, 116, 105, 110, 117, 97, 116, 105, 111, 110, 95, 119, 115, 95, 108, 101, 110]⟩
noncomputable def sSplit : Str := ⟨#[95, 115, 112, 108, 105, 116, 99, 104, 97, 114, 115]⟩
noncomputable def sLines : Str := ⟨#[95, 108, 105, 110, 101, 115]⟩
noncomputable def sCur : Str := ⟨#[95, 99, 117, 114, 114, 101, 110, 116, 95, 108, 105, 110, 101]⟩
structure FA where
  pF : Nat
  pFD : Nat
  pL : Nat
  pA : Nat
  pAD : Nat
  W : Int
noncomputable def FA.vs (a : FA) (as : List Addr) (lines : List PySem.Value) (tb1 tb2 : List PySem.Value) : Vs :=
  [(a.pA + 281, ⟨.r 178, some (a.pAD + 281), .seqV (as.map .ref)⟩), (a.pAD + 281, ⟨.t "dict", none, .dict [(.s sInit, .i 0)]⟩),
   (140, ⟨.none, none, .exact (.fields ⟨tb1⟩)⟩), (147, ⟨.none, none, .exact (.fields ⟨tb2⟩)⟩),
   (a.pL + 281, ⟨.t "list", none, .seqV lines⟩),
   (a.pFD + 281, ⟨.t "dict", none, .dict [(.s sMaxlen, .i a.W), (.s sCws, .s ⟨#[32]⟩), (.s sCwsLen, .i 1), (.s sSplit, .s ⟨#[32]⟩), (.s sLines, .r (a.pL + 281)), (.s sCur, .r (a.pA + 281))]⟩),
   (a.pF + 281, ⟨.r 94, some (a.pFD + 281), .plain⟩)]
theorem past_concat {c : PySem.Value} {dd : Option Addr} {ep : Nat} {sl : Array (Option PySem.Value)} {xs : List PySem.Value} {v : PySem.Value} (h : xs.length ≤ 1000) : (⟨c, dd, .seq ⟨PySem.W.R.concatR xs v⟩ ep, sl⟩ : Obj).data.pastItsLine = none := by
  have e : (PySem.W.R.concatR xs v).length = xs.length + 1 := by rw [concatR_app]; simp
  have hs := sizeLine_eq
  show (if (PySem.W.R.concatR xs v).length > sizeLine + 1 then some "sequence:memory" else none) = none
  rw [if_neg (by (run_tac om))]
theorem concat_refs (as : List Addr) (a : Addr) : PySem.W.R.concatR (as.map PySem.Value.ref) (.ref a) = (as ++ [a]).map .ref := by rw [concatR_app]; simp
theorem tups_snoc {T : Cells} {as : List Addr} {ps : List (Str × Str)} (h : Tups T as ps) {a : Addr} {o : Obj} {q : Str × Str} {k j : Tok} (hm : (a, o) ∈ T) (ho : tupO q.1 q.2 k j o) : Tups T (as ++ [a]) (ps ++ [q]) := by
  induction h with
  | nil => exact .cons o hm k j ho .nil
  | cons o' h' k' j' ho' r ih => exact .cons o' h' k' j' ho' ih
noncomputable def smallP (ps : List (Str × Str)) : Prop := ps.length ≤ 1000 ∧ ∀ q ∈ ps, q.1.length ≤ 1000 ∧ q.2.length ≤ 1000
theorem size_small {ps : List (Str × Str)} (h : smallP ps) : sizeOf2 ps ≤ 2000 * 1000 := by
  run_tac sq0
  have key : ∀ l : List (Str × Str), (∀ q ∈ l, q.1.length ≤ 1000 ∧ q.2.length ≤ 1000) → sizeOf2 l ≤ 2000 * l.length := by
    intro l
    induction l with
    | nil => intro _; exact Nat.le_refl _
    | cons q l ih =>
      intro hq
      have h1 := hq q (.head _)
      have h2 := ih fun r hr => hq r (.tail _ hr)
      have e : sizeOf2 (q :: l) = q.1.length + q.2.length + sizeOf2 l := by unfold sizeOf2; simp
      rw [e, List.length_cons]
      (run_tac om)
  have := key ps h.2
  have := h.1
  (run_tac om)
  run_tac sq
open PySem.Builtin.Range in
theorem range_small {m : Int} (h1 : 1 ≤ m) (h2 : m ≤ 2000) : (!(rangeFitsLong (m - 1) && rangeFitsLong 0 && rangeFitsLong (-1) && rangeFitsLong (rangeSize (m - 1) 0 (-1)) && (rangeSize (m - 1) 0 (-1) == 0 || (if (-1 : Int) > 0 then rangeFitsLong (0 + (-1 - 1)) else rangeFitsLong (0 + (-1 + 1)))))) = false := by
  have e : rangeSize (m - 1) 0 (-1) = m - 1 := by
    unfold rangeSize
    simp
    (run_tac om)
  rw [e]
  unfold rangeFitsLong
  simp
  (run_tac om)
open PySem.Builtin.Range in
theorem range_size {m : Int} (h1 : 1 ≤ m) : rangeSize (m - 1) 0 (-1) = m - 1 := by
  unfold rangeSize
  simp
  (run_tac om)
open PySem.Builtin.Range in
noncomputable def rngSmall (m : Int) : Bool := rangeFitsLong (m - 1) && rangeFitsLong 0 && rangeFitsLong (-1) && rangeFitsLong (rangeSize (m - 1) 0 (-1)) && (rangeSize (m - 1) 0 (-1) == 0 || (if (-1 : Int) > 0 then rangeFitsLong (0 + (-1 - 1)) else rangeFitsLong (0 + (-1 + 1))))
open PySem.Builtin.Range in
noncomputable def rngIt (m : Int) : OV := ⟨.t (if rngSmall m = true then "range_iterator" else "longrange_iterator"), none, .fields [.i (m - 1), .i (rangeSize (m - 1) 0 (-1)), .i (-1)]⟩
theorem range_is {m : Int} (h1 : 1 ≤ m) (h2 : m ≤ 2000) : rngIt m = ⟨.t "range_iterator", none, .fields [.i (m - 1), .i (m - 1), .i (-1)]⟩ := by
  unfold rngIt
  have h := range_small h1 h2
  have h' : rngSmall m = true := by
    cases e : rngSmall m with
    | true => rfl
    | false => unfold rngSmall at e; rw [e] at h; cases h
  rw [h', range_size h1]
  rfl
theorem fits_no {m : Int} (h1 : 1 ≤ m) (h2 : m ≤ 2000) : (!PySem.Builtin.List.listFitsIndex (m - 1)) = false := by
  unfold PySem.Builtin.List.listFitsIndex
  simp
  (run_tac om)
theorem slice_tail {xs : List PySem.Value} {k : Nat} {i : Int} (h : i = (k : Int)) (hk : k ≤ xs.length) :
    List.filterMap (fun (x : Nat) => (⟨xs⟩ : Array PySem.Value)[x]?) (sliceRange (max 0 (min (if i < 0 then i + ((⟨xs⟩ : Array PySem.Value).size : Int) else i) ((⟨xs⟩ : Array PySem.Value).size : Int))) (if (1 : Int) > 0 then ((⟨xs⟩ : Array PySem.Value).size : Int) else -1) 1) = xs.drop k := by
  run_tac sq0
  subst h
  have e1 : (max 0 (min (if (k : Int) < 0 then (k : Int) + ((⟨xs⟩ : Array PySem.Value).size : Int) else (k : Int)) ((⟨xs⟩ : Array PySem.Value).size : Int))) = (k : Int) := by
    rw [if_neg (by (run_tac om))]
    show max 0 (min (k : Int) (xs.length : Int)) = k
    (run_tac om)
  rw [e1]
  have e2 : (if (1 : Int) > 0 then ((⟨xs⟩ : Array PySem.Value).size : Int) else -1) = (xs.length : Int) := by simp
  rw [e2]
  have e3 : sliceRange (k : Int) (xs.length : Int) 1 = (List.range (xs.length - k)).map (fun j => k + j) := by
    unfold sliceRange
    have hc : (if (1 : Int) > 0 then (if (k : Int) < (xs.length : Int) then ((xs.length : Int) - k + 1 - 1) / 1 else 0) else (if (k : Int) > (xs.length : Int) then ((k : Int) - xs.length - 1 - 1) / (-1) else 0)).toNat = xs.length - k := by
      rw [if_pos (by decide)]
      split <;> (run_tac om)
    simp only [hc]
    refine List.map_congr_left fun j _ => ?_
    (run_tac om)
  rw [e3]
  have := PySem.StrLaws.picks xs (xs.length - k) k (by (run_tac om))
  rw [show (fun (x : Nat) => (⟨xs⟩ : Array PySem.Value)[x]?) = (fun x => xs[x]?) from by funext x; simp, this]
  rw [List.take_of_length_le (by simp)]
  run_tac sq
theorem sliceRange_tw (a b c : Int) : PySem.W.Fast.tw10209042966406643723 a b c = sliceRange a b c := by
  unfold PySem.W.Fast.tw10209042966406643723 sliceRange
  rw [← PySem.W.R.mapR_eq]
theorem noSame {x y : PySem.Value} {a b : Addr} (h : PySem.Builtin.List.listSameRef x y = true) (hx : x = .ref a) (hy : y = .ref b) (hne : b ≠ a) : False := by
  subst hx hy
  have h' : (a == b) = true := h
  have h2 : a = b := by simpa using h'
  exact hne h2.symm
theorem long_no {xs ys : List PySem.Value} (h : PySem.Builtin.List.listTooLong ((⟨xs⟩ : Array PySem.Value).size + (⟨ys⟩ : Array PySem.Value).size) = true) (hs : xs.length + ys.length ≤ 3000) : False := by
  unfold PySem.Builtin.List.listTooLong at h
  have := of_decide_eq_true h
  have := sizeLine_eq
  simp only [List.size_toArray] at *
  (run_tac om)
noncomputable def appendChunk (W : Int) (ls : List Str) (ps : List (Str × Str)) (q : Str × Str) : List Str × List (Str × Str) :=
  if W < (sizeOf2 (ps ++ [q]) : Int) ∧ ps ≠ [] then (ls ++ [allS ps], [q]) else (ls, ps ++ [q])
noncomputable def acQ (a : FA) (ls : List Str) (ps : List (Str × Str)) (T : Cells) (GT : GL) (r : Result) (H : HS) : Prop :=
  ∃ (as : List Addr) (lines tb1 tb2 : List PySem.Value) (N : Cells), lenT tb1 ∧ strT tb2 ∧ Tups (T ++ N) as ps ∧ lines.map vv = ls.map VV.s ∧ Rets .none (a.vs as lines tb1 tb2) (T ++ N) GT r H
theorem ac_same {W : Int} {ls : List Str} {ps : List (Str × Str)} {q : Str × Str} (h : ¬ W < (sizeOf2 (ps ++ [q]) : Int)) : appendChunk W ls ps q = (ls, ps ++ [q]) := by unfold appendChunk; rw [if_neg (fun h' => h h'.1)]
theorem ac_fold {W : Int} {ls : List Str} {ps : List (Str × Str)} {q : Str × Str} (h : W < (sizeOf2 (ps ++ [q]) : Int)) (hp : ps ≠ []) : appendChunk W ls ps q = (ls ++ [allS ps], [q]) := by unfold appendChunk; rw [if_pos ⟨h, hp⟩]
noncomputable def LenOk (C : Cx) : Prop := ∀ (pA pAD : Nat) (as : List Addr) (ps : List (Str × Str)) (tb : List PySem.Value), smallP ps → lenT tb →
  ∀ B, okB lnShapes B = true → Sp C (.call (.ref 145) ⟨[.ref (pA + 281)], []⟩) B (lnV pA pAD as tb) (fun T => Tups T as ps) (lnQ pA pAD as ps)
noncomputable def StrOk (C : Cx) : Prop := ∀ (pA pAD : Nat) (as : List Addr) (ps : List (Str × Str)) (tb : List PySem.Value), smallP ps → strT tb →
  ∀ B, okB stShapes B = true → Sp C (.call (.ref 152) ⟨[.ref (pA + 281)], []⟩) B (stV pA pAD as tb) (fun T => Tups T as ps) (stQ pA pAD as ps)
theorem dropC_mem {l : Cells} {k j : Nat} {q : Addr × Obj} (h : cellAt (dropC l k) j = some q) : q ∈ dropC l k := cellAt_mem h
end Mine
end -- M17
section -- M18
set_option backward.match.sparseCases false
set_option genSizeOf false
set_option genInjectivity false
open PySem PySem.W PySem.W.X
namespace Mine
theorem or3_yes {a b c : Bool} (h : ¬ (a || b || c) = true) (hc : c = true) : False := h (by rw [hc]; simp)
noncomputable def acmV (pA pAD : Nat) (as : List Addr) (tb1 tb2 : List PySem.Value) : Vs :=
  [(pA + 281, ⟨.r 178, some (pAD + 281), .seqV (as.map .ref)⟩), (pAD + 281, ⟨.t "dict", none, .dict [(.s sInit, .i 0)]⟩),
   (140, ⟨.none, none, .exact (.fields ⟨tb1⟩)⟩), (147, ⟨.none, none, .exact (.fields ⟨tb2⟩)⟩)]
noncomputable def owQ (pA pAD : Nat) (as : List Addr) (T : Cells) (GT : GL) (r : Result) (H : HS) : Prop :=
  ∃ tb1 tb2 : List PySem.Value, lenT tb1 ∧ strT tb2 ∧ Rets (.b false) (acmV pA pAD as tb1 tb2) T GT r H
theorem size_last {ps : List (Str × Str)} {i : Int} (hi : i = (sizeOf2 (ps ++ [((⟨#[32]⟩ : Str), (⟨#[46]⟩ : Str))]) : Int)) : 2 ≤ i := by
  rw [hi]
  unfold sizeOf2
  rw [List.map_append, List.sum_append]
  simp [Str.length]
  (run_tac om)
theorem tups_last {T : Cells} {as : List Addr} {ps : List (Str × Str)} {q : Str × Str} (h : Tups T as (ps ++ [q])) : ∃ as' a o k j, as = as' ++ [a] ∧ Tups T as' ps ∧ (a, o) ∈ T ∧ tupO q.1 q.2 k j o := by
  run_tac sq0
  (
  induction ps generalizing as with
  | nil =>
    cases h with
    | cons o h k j ho r => cases r; exact ⟨[], _, o, k, j, rfl, .nil, h, ho⟩
  | cons p ps ih =>
    cases h with
    | cons o h k j ho r =>
      obtain ⟨as', a, o', k', j', rfl, h1, h2, h3⟩ := ih r
      exact ⟨_ :: as', a, o', k', j', rfl, .cons o h k j ho h1, h2, h3⟩
  )
  run_tac sq
end Mine
end -- M18
section -- M19
set_option backward.match.sparseCases false
set_option genSizeOf false
set_option genInjectivity false
open PySem PySem.W PySem.W.X
namespace Mine
noncomputable def flatP (ps : List (Str × Str)) : List Nat := (ps.map fun q => q.1.cps.toList ++ q.2.cps.toList).flatten
theorem glue0 (l : List Str) : ∀ x : Array Nat, (l.foldl (fun acc p => acc ++ (⟨#[]⟩ : Str).cps ++ p.cps) x).toList = x.toList ++ (l.map (fun q => q.cps.toList)).flatten := by
  induction l with
  | nil => intro x; simp
  | cons p l ih => intro x; rw [List.foldl_cons, ih]; simp
theorem allS_list (ps : List (Str × Str)) : (allS ps).cps.toList = flatP ps := by
  run_tac sq0
  (
  have e : ∀ q : Str × Str, (q.1 ++ q.2).cps.toList = q.1.cps.toList ++ q.2.cps.toList := fun q => by
    rw [show (q.1 ++ q.2).cps = q.1.cps ++ q.2.cps from rfl, Array.toList_append]
  cases ps with
  | nil => rfl
  | cons q ps =>
    have := glue0 (catS ps) (q.1 ++ q.2).cps
    have e2 : allS (q :: ps) = ⟨(catS ps).foldl (fun acc p => acc ++ (⟨#[]⟩ : Str).cps ++ p.cps) (q.1 ++ q.2).cps⟩ := by
      show PySem.Builtin.Str.glued ⟨#[]⟩ ((q.1 ++ q.2) :: catS ps) = _
      unfold PySem.Builtin.Str.glued
      simp
    rw [e2]
    refine this.trans ?_
    rw [e q]
    unfold flatP catS
    rw [List.map_cons, List.flatten_cons, List.map_map]
    congr 2
    exact List.map_congr_left fun r _ => e r
  )
  run_tac sq
theorem all_toList {p : Nat → Bool} {x : Array Nat} : x.all p = x.toList.all p := by simp
theorem dot_no {ps : List (Str × Str)} : (decide ((allS (ps ++ [((⟨#[32]⟩ : Str), (⟨#[46]⟩ : Str))])).length > 0) && (allS (ps ++ [((⟨#[32]⟩ : Str), (⟨#[46]⟩ : Str))])).cps.all PySem.Unicode.isSpace) = false := by
  run_tac sq0
  rw [all_toList, allS_list]
  have : (flatP (ps ++ [((⟨#[32]⟩ : Str), (⟨#[46]⟩ : Str))])).all PySem.Unicode.isSpace = false := by
    unfold flatP
    rw [List.map_append, List.flatten_append, List.all_append]
    have : ((List.map (fun (q : Str × Str) => q.1.cps.toList ++ q.2.cps.toList) [((⟨#[32]⟩ : Str), (⟨#[46]⟩ : Str))]).flatten).all PySem.Unicode.isSpace = false := by decide +kernel
    rw [this]
    simp
  rw [this]
  simp
  run_tac sq
noncomputable def lstV (pA pAD : Nat) (as : List Addr) : Vs :=
  [(pA + 281, ⟨.r 178, some (pAD + 281), .seqV (as.map .ref)⟩), (pAD + 281, ⟨.t "dict", none, .dict [(.s sInit, .i 0)]⟩)]
noncomputable def OwOk (C : Cx) : Prop := ∀ (pA pAD : Nat) (as : List Addr) (ps : List (Str × Str)) (tb1 tb2 : List PySem.Value), smallP (ps ++ [(⟨#[32]⟩, ⟨#[46]⟩)]) → lenT tb1 → strT tb2 →
  ∀ B, okB [[0, 0, 1, 0, 3]] B = true → Sp C (.call (.ref 167) ⟨[.ref (pA + 281)], []⟩) B (acmV pA pAD as tb1 tb2) (fun T => Tups T as (ps ++ [(⟨#[32]⟩, ⟨#[46]⟩)])) (owQ pA pAD as)
noncomputable def AppL (C : Cx) : Prop := ∀ (a : Nat) (xs : List PySem.Value) (v : PySem.Value), xs.length ≤ 1000 → ∀ B, okB anySh B = true →
  Sp C (.builtin "list.append" ⟨[.ref (a + 281), v], []⟩) B [(a + 281, ⟨.t "list", none, .seqV xs⟩)] noP (Rets .none [(a + 281, ⟨.t "list", none, .seqV (xs ++ [v])⟩)])
noncomputable def AppA (C : Cx) : Prop := ∀ (a ad : Nat) (as : List Addr) (x : Addr), as.length ≤ 1000 → ∀ B, okB anySh B = true →
  Sp C (.builtin "list.append" ⟨[.ref (a + 281), .ref x], []⟩) B [(a + 281, ⟨.r 178, some (ad + 281), .seqV (as.map .ref)⟩)] noP (Rets .none [(a + 281, ⟨.r 178, some (ad + 281), .seqV ((as ++ [x]).map .ref)⟩)])
noncomputable def PopA (C : Cx) : Prop := ∀ (a ad : Nat) (as : List Addr) (x : Addr), as.length ≤ 900 → ∀ B, okB anySh B = true →
  Sp C (.builtin "list.pop" ⟨[.ref (a + 281)], []⟩) B [(a + 281, ⟨.r 178, some (ad + 281), .seqV ((as ++ [x]).map .ref)⟩)] noP (Rets (.r x) [(a + 281, ⟨.r 178, some (ad + 281), .seqV (as.map .ref)⟩)])
noncomputable def AiOk (C : Cx) : Prop := ∀ (pA pAD : Nat) (args : List PySem.Value), (args = [] ∨ ∃ k, args = [.int 0 k]) →
  ∀ B, okB aiShapes B = true → Sp C (.call (.ref 115) ⟨.ref (pA + 281) :: args, []⟩) B [(pA + 281, ⟨.r 178, some (pAD + 281), .seqV []⟩), (pAD + 281, ⟨.t "dict", none, .dict []⟩)] noP (Rets .none (lstV pA pAD []))
noncomputable def PcOk (C : Cx) : Prop := ∀ (pA pAD : Nat) (as : List Addr), as.length ≤ 1000 →
  ∀ B, okB pcShapes B = true → Sp C (.call (.ref 175) ⟨[.ref (pA + 281)], []⟩) B (lstV pA pAD as) noP (Rets (.i as.length) (lstV pA pAD as))
noncomputable def PopOk (C : Cx) : Prop := ∀ (pA pAD : Nat) (as : List Addr) (al : Addr), as.length ≤ 900 →
  ∀ B, okB popShapes B = true → Sp C (.call (.ref 138) ⟨[.ref (pA + 281)], []⟩) B (lstV pA pAD (as ++ [al])) noP (fun T GT r H => Rets (.r al) (lstV pA pAD as) T GT r H)
noncomputable def ResetOk (C : Cx) : Prop := ∀ (pA pAD : Nat) (as : List Addr) (al : Addr), as.length ≤ 900 →
  ∀ B, okB [[0, 0, 1, 0, 3]] B = true → Sp C (.call (.ref 160) ⟨[.ref (pA + 281)], []⟩) B (lstV pA pAD (as ++ [al])) noP (fun T GT r H => Rets .none (lstV pA pAD []) T GT r H)
noncomputable abbrev exT (xs : List PySem.Value) (i j : Nat) : Array PySem.Value := PySem.W.Fast.tw8050958516035322399 (⟨xs⟩ : Array PySem.Value) i j
noncomputable abbrev apT (a b : Array PySem.Value) : Array PySem.Value := @HAppend.hAppend (Array PySem.Value) (Array PySem.Value) (Array PySem.Value) (@instHAppendOfAppend (Array PySem.Value) PySem.W.Fast.tw494991955013373658) a b
theorem exT_list (xs : List PySem.Value) (i j : Nat) : (exT xs i j).toList = (xs.take j).drop i := by
  have e : exT xs i j = (⟨xs⟩ : Array PySem.Value).extract i j := by unfold exT; rw [← PySem.W.Fast.te8050958516035322399]
  rw [e, Array.toList_extract, List.extract_eq_take_drop, List.drop_take]
theorem apT_list (a b : Array PySem.Value) : (apT a b).toList = a.toList ++ b.toList := by
  have e : apT a b = a ++ b := by unfold apT; rw [← PySem.W.Fast.te494991955013373658]
  rw [e, Array.toList_append]
theorem past_small {ep : Nat} {xs : List PySem.Value} (h : xs.length ≤ 1000) : (PySem.Data.seq ⟨xs⟩ ep).pastItsLine = none := by
  have hs := sizeLine_eq
  show (if xs.length > sizeLine + 1 then some "sequence:memory" else none) = none
  rw [if_neg (by (run_tac om))]
noncomputable def slA (lo : Option Int) (n : Int) : Int := match lo with
  | none => if (1 : Int) > 0 then 0 else n - 1
  | some i => max 0 (min (if i < 0 then i + n else i) n)
theorem slA_at {xs : List PySem.Value} {k : Nat} (h : k ≤ xs.length) : (slA (some (k : Int)) (⟨xs⟩ : Array PySem.Value).size).toNat = k := by
  show (max 0 (min (if (k : Int) < 0 then (k : Int) + (xs.length : Int) else k) (xs.length : Int))).toNat = k
  rw [if_neg (by (run_tac om)), Int.min_eq_left (by (run_tac om)), Int.max_eq_right (by (run_tac om))]
  rfl
theorem slB_at (xs : List PySem.Value) (a : Int) : xs.length ≤ (max a (if (1 : Int) > 0 then ((⟨xs⟩ : Array PySem.Value).size : Int) else -1)).toNat := by
  show xs.length ≤ (max a (if (1 : Int) > 0 then (xs.length : Int) else -1)).toNat
  rw [if_pos (by decide)]
  have : (xs.length : Int) ≤ max a (xs.length : Int) := Int.le_max_right ..
  (run_tac om)
noncomputable def SiOk (C : Cx) : Prop := ∀ (pA pAD pY pS : Nat) (as : List Addr) (ys : List PySem.Value) (lo : VV) (k : Nat), (lo = .none ∧ k = 0 ∨ lo = .i (k : Nat)) → k ≤ as.length → as.length + ys.length ≤ 1000 → pA + 281 ≠ pY + 281 →
  ∀ B, okB anySh B = true → Sp C (.builtin "list.__setitem__" ⟨[.ref (pA + 281), .ref (pS + 281), .ref (pY + 281)], []⟩) B
    [(pA + 281, ⟨.r 178, some (pAD + 281), .seqV (as.map .ref)⟩), (pS + 281, ⟨.t "slice", none, .fields [lo, .none, .none]⟩), (pY + 281, ⟨.t "list", none, .seqV ys⟩)] noP
    (Rets .none [(pA + 281, ⟨.r 178, some (pAD + 281), .seqV ((as.take k).map .ref ++ ys)⟩)])
theorem removed {as : List Addr} {i j : Nat} {z : List PySem.Value} (h : (exT (as.map .ref) i j).toList.reverse = z) : ∃ zs : List Addr, z = zs.map .ref := by
  refine ⟨((as.take j).drop i).reverse, ?_⟩
  rw [← h, exT_list, ← List.map_take, ← List.map_drop, List.map_reverse]
noncomputable def newT (xs ys : List PySem.Value) (a b : Nat) : List PySem.Value := (apT (apT (exT xs 0 a) ⟨ys⟩) (exT xs b (⟨xs⟩ : Array PySem.Value).size)).toList
theorem newT_eq (xs ys : List PySem.Value) {a b k : Nat} (ha : a = k) (hb : xs.length ≤ b) : newT xs ys a b = xs.take k ++ ys := by
  unfold newT
  rw [apT_list, apT_list, exT_list, exT_list, ha]
  simp
  (run_tac om)
noncomputable def gsT (xs : List PySem.Value) (a b : Int) : List PySem.Value := List.filterMap (fun (x : Nat) => (⟨xs⟩ : Array PySem.Value)[x]?) (PySem.W.Fast.tw10209042966406643723 a b 1)
theorem gsT_eq {xs : List PySem.Value} {k : Nat} (hk : k ≤ xs.length) : gsT xs (slA (some (k : Int)) (⟨xs⟩ : Array PySem.Value).size) (if (1 : Int) > 0 then ((⟨xs⟩ : Array PySem.Value).size : Int) else -1) = xs.drop k := by
  unfold gsT
  rw [sliceRange_tw]
  exact slice_tail rfl hk
noncomputable def GiOk (C : Cx) : Prop := ∀ (pA pAD pS : Nat) (as : List Addr) (k : Nat), k ≤ as.length → as.length ≤ 1000 →
  ∀ B, okB anySh B = true → Sp C (.builtin "list.__getitem__" ⟨[.ref (pA + 281), .ref (pS + 281)], []⟩) B
    [(pA + 281, ⟨.r 178, some (pAD + 281), .seqV (as.map .ref)⟩), (pS + 281, ⟨.t "slice", none, .fields [.i k, .none, .none]⟩)] noP
    (fun T GT r H => ∃ l : Nat, Rets (.r (l + 281)) [(l + 281, ⟨.t "list", none, .seqV ((as.drop k).map .ref)⟩), (pA + 281, ⟨.r 178, some (pAD + 281), .seqV (as.map .ref)⟩)] T GT r H)
noncomputable def LGA (C : Cx) : Prop := ∀ (p1 pd k : Nat) (i : Int) (tk : Tok) (xs : List PySem.Value) (v : PySem.Value), i = (k : Int) → xs[k]? = some v → xs.length ≤ 1000 → ∀ B, okB anySh B = true → Sp C (.builtin "list.__getitem__" ⟨[.ref (p1 + 281), .int i tk], []⟩) B
    [(p1 + 281, ⟨.r 178, some (pd + 281), .seqV xs⟩)] noP (Rets (vv v) [(p1 + 281, ⟨.r 178, some (pd + 281), .seqV xs⟩)])
noncomputable def RNd (C : Cx) : Prop := ∀ (pI : Nat) (i j : Int) (f : Nat), j = i - 1 → ∀ B, okB anySh B = true → Sp C (.builtin "range_iterator.__next__" ⟨[.ref (pI + 281)], []⟩) B
    [(pI + 281, ⟨.t "range_iterator", none, .fields [.i i, .i ((f + 1 : Nat) : Int), .i (-1)]⟩)] noP
    (Rets (.i i) [(pI + 281, ⟨.t "range_iterator", none, .fields [.i j, .i (f : Int), .i (-1)]⟩)])
noncomputable def tokOf : Option PySem.Value → Tok
  | some (.str _ k) => k
  | some (.int _ k) => k
  | _ => 0
noncomputable def argTok (i : Nat) : Code → Tok
  | .call _ a => tokOf a.pos[i]?
  | .builtin _ a => tokOf a.pos[i]?
  | _ => 0
theorem fits_no' {i : Int} {k : Nat} (h : i = (k : Int)) (hk : k ≤ 2000) : (!PySem.Builtin.List.listFitsIndex i) = false := by
  subst h
  unfold PySem.Builtin.List.listFitsIndex
  simp
  (run_tac om)
end Mine
end -- M19
section -- M20
set_option backward.match.sparseCases false
set_option genSizeOf false
set_option genInjectivity false
open PySem PySem.W PySem.W.X PySem.Builtin PySem.Builtin.Str
namespace Mine
theorem foldl_len (sep : Str) : ∀ (l : List Str) (k : Nat), l.toArray.foldl (fun (acc : Nat) (p : Str) => acc + p.length + sep.length) k = k + (l.map (·.length)).sum + l.length * sep.length := by
  intro l k
  rw [List.foldl_toArray']
  · induction l generalizing k with
    | nil => simp
    | cons p l ih =>
      rw [List.foldl_cons, ih, List.map_cons, List.sum_cons, List.length_cons, Nat.succ_mul]
      (run_tac om)
  · rfl
theorem glued_len (sep : Str) : ∀ (l : List Str) (x : Array Nat), (l.foldl (fun acc p => acc ++ sep.cps ++ p.cps) x).size = x.size + (l.map (·.length)).sum + l.length * sep.length := by
  run_tac sq0
  (
  intro l
  induction l with
  | nil => intro x; simp
  | cons p l ih =>
    intro x
    rw [List.foldl_cons, ih, List.map_cons, List.sum_cons, List.length_cons, Nat.succ_mul, Array.size_append, Array.size_append]
    show x.size + sep.length + p.length + _ + _ = _
    (run_tac om)
  )
  run_tac sq
theorem glued_le (sep : Str) (l : List Str) : (glued sep l).length ≤ (l.map (·.length)).sum + l.length * sep.length := by
  run_tac sq0
  (
  cases l with
  | nil => show (0 : Nat) ≤ _; (run_tac om)
  | cons p l =>
    have : (glued sep (p :: l)).length = p.length + (l.map (·.length)).sum + l.length * sep.length := by
      unfold glued
      show (((p :: l).drop 1).foldl (fun acc p => acc ++ sep.cps ++ p.cps) ((p :: l).headD Str.empty).cps).size = _
      rw [glued_len]
      rfl
    rw [this, List.map_cons, List.sum_cons, List.length_cons, Nat.succ_mul]
    (run_tac om)
  )
  run_tac sq
noncomputable def nlQ (a : FA) (ls : List Str) (ps : List (Str × Str)) (T : Cells) (GT : GL) (r : Result) (H : HS) : Prop :=
  ∃ (lines tb1 tb2 : List PySem.Value), lenT tb1 ∧ strT tb2 ∧ Rets (.s (glued ⟨#[10]⟩ (ls ++ [allS (ps ++ [((⟨#[32]⟩ : Str), (⟨#[46]⟩ : Str))])]))) (a.vs [] lines tb1 tb2) T GT r H
section
variable {C : Cx} {Γ : Ctx} {H : HS}
theorem joinl_ok {sep : Str} {ls : List Str} {lines : List PySem.Value} {a : Addr} (hls : lines.map vv = ls.map VV.s) (hb : builtV Γ.code = some ("str.join", [.s sep, .r a], 0)) (i : Nat)
    (hs : vAtT ⟨.t "list", none, .seqV lines⟩ H.cells i = some ⟨.t "list", none, .seqV lines⟩) (ha : (match cellAt H.cells i with | some q => q.1 | none => 0) = a) (hl : (ls.map (·.length)).sum + ls.length * sep.length ≤ sizeLine) :
    Bw C Γ H (fun r => ∃ z k, r = .ok (.ret (.str z k)) ∧ z = glued sep ls) := by
  run_tac sq0
  intro p
  obtain ⟨as, hc, hv⟩ := builtV_inv hb
  obtain ⟨v1, l1, rfl, h1, hv⟩ := map_cons hv
  obtain ⟨v2, l2, rfl, h2, hv⟩ := map_cons hv
  obtain rfl := map_nil hv
  obtain ⟨k, rfl⟩ := vv_s h1
  obtain rfl := vv_r h2
  obtain ⟨l, rfl, rfl⟩ := vals_strs hls
  unfold vAtT at hs
  split at hs
  · rename_i q hq
    rw [hq] at ha
    dsimp only at ha
    subst ha
    injection hs with hs
    obtain ⟨jv, J, eo⟩ := unov_ofT hs
    have hll : tooLong ((l.map (·.1)).toArray.foldl (· + ·.length + sep.length) 0) = false := by
      have e0 := foldl_len sep (l.map (·.1)) 0
      unfold tooLong
      rw [e0]
      simp only [decide_eq_false_iff_not, Nat.not_lt]
      (run_tac om)
    refine ctr_meets PySem.F.entry_str_join (meets_str_join_list sep k q.1 l hll) hc fun n t G h gs D hg => ?_
    have hh := D.own _ (cellAt_mem hq)
    rw [eo] at hh
    refine ⟨⟨_, hh, rfl, _, rfl⟩, ?_⟩
    have key : ∀ z tk, z = glued sep (l.map (·.1)) → Post C (fun r H' => (∃ z k, r = .ok (.ret (.str z k)) ∧ z = glued sep (l.map (·.1))) ∧ H' = H) (.ok (.ret (.str z tk))) ⟨h, gs, C.d, t + C.T0, C.os⟩ := fun z tk e => ⟨n, t, G, h, gs, H, rfl, D, hg, ⟨z, tk, rfl, e⟩, rfl⟩
    have key2 : glued sep (l.map (·.1)) = glued sep (l.map (·.1)) → (Made.str (glued sep (l.map (·.1)))).post (fun v s' => Post C (fun r H' => (∃ z k, r = .ok (.ret (.str z k)) ∧ z = glued sep (l.map (·.1))) ∧ H' = H) (.ok (.ret v)) s') ⟨h, gs, C.d, t + C.T0, C.os⟩ := fun _ =>
      ⟨Nat.le_trans (glued_le _ _) hl, n, t + 1, G, h, gs, H, by rw [Nat.add_right_comm], D, hg, ⟨_, _, rfl, rfl⟩, rfl⟩
    rcases l with _ | ⟨p, _ | ⟨q, r⟩⟩
    · exact key2 rfl
    · exact key _ _ rfl
    · exact key2 rfl
  · cases hs
  run_tac sq
end
end Mine
end -- M20
section -- N17
set_option backward.match.sparseCases false
set_option genSizeOf false
set_option genInjectivity false
open PySem PySem.W PySem.W.X
namespace Mine
structure FB where
  pF : Nat
  pFD : Nat
  pL : Nat
  pA : Nat
  pAD : Nat
  W : Int
  sp : Nat
noncomputable def FB.vs (a : FB) (as : List Addr) (lines : List PySem.Value) (tb1 tb2 : List PySem.Value) : Vs :=
  [(a.pA + 281, ⟨.r 178, some (a.pAD + 281), .seqV (as.map .ref)⟩), (a.pAD + 281, ⟨.t "dict", none, .dict [(.s sInit, .i 0)]⟩),
   (140, ⟨.none, none, .exact (.fields ⟨tb1⟩)⟩), (147, ⟨.none, none, .exact (.fields ⟨tb2⟩)⟩),
   (a.pL + 281, ⟨.t "list", none, .seqV lines⟩),
   (a.pFD + 281, ⟨.t "dict", none, .dict [(.s sMaxlen, .i a.W), (.s sCws, .s ⟨#[9]⟩), (.s sCwsLen, .i 1), (.s sSplit, .s ⟨#[a.sp]⟩), (.s sLines, .r (a.pL + 281)), (.s sCur, .r (a.pA + 281))]⟩),
   (a.pF + 281, ⟨.r 94, some (a.pFD + 281), .plain⟩)]
noncomputable def envFor (P : Params) (f c : Nat) (q : Str) (pF : Addr) : Env := { scope := (fdOf ((kt1 P).get f)).scope, locals := pF, globals := 3, cells := [], qual := q, func := some f, code := .ref c, frame := some pF, builtins := 0 }
noncomputable def forIn' (s : Stmt) (E : Env) (pI : Addr) : Code := .forLoop (forParts s).1 (.ref pI) (forParts s).2.1 (forParts s).2.2 E
noncomputable def bodyOf (P : Params) (f i : Nat) : Stmt := stmtAt (fdOf ((kt1 P).get f)).body i
noncomputable def inFor (s : Stmt) (i : Nat) : Stmt := (forParts s).2.1.getD i default
noncomputable def sString : Str := ⟨#[115, 116, 114, 105, 110, 103]⟩
noncomputable def sI : Str := ⟨#[105]⟩
noncomputable def sPrevpart : Str := ⟨#[112, 114, 101, 118, 112, 97, 114, 116]⟩
noncomputable def sAcQ : Str := ⟨#[95, 86, 97, 108, 117, 101, 70, 111, 114, 109, 97, 116, 116, 101, 114, 46, 95, 97, 112, 112, 101, 110, 100, 95, 99, 104, 117, 110, 107, 46, 60, 108, 111, 99, 97, 108, 115, 62, 46]⟩
noncomputable def bpAt (sp : Nat) (p q : Str × Str) : Bool := (match q.1.cps.toList with
    | [] => false
    | c :: _ => sp == 32 && c == sp) || (match p.2.cps.toList.getLast? with
    | none => false
    | some c => c == sp)
noncomputable def lastBp (sp : Nat) (ps : List (Str × Str)) : Nat → Option Nat
  | 0 => none
  | i + 1 => match ps[i]?, ps[i + 1]? with
    | some p, some q => if bpAt sp p q = true then some (i + 1) else lastBp sp ps i
    | _, _ => none
noncomputable def acFor (P : Params) : Stmt := (ifParts (bodyOf P 91 1)).1.getD 0 default
noncomputable def acIn (P : Params) (pFr pI : Nat) : Code := forIn' (inFor (acFor P) 0) (envFor P 91 90 sAcQ (pFr + 281)) (pI + 281)
noncomputable def FB.fr (a : FB) (pFr : Nat) (f y : Str) (loc : List (VV × VV)) : Addr × OV := (pFr + 281, ⟨.t "frame", none, .dict ([(.s sSelf, .r (a.pF + 281)), (.s sFws, .s f), (.s sString, .s y), (.s sCh, .s ⟨#[a.sp]⟩)] ++ loc)⟩)
noncomputable def inLoc (loc : List (VV × VV)) : Prop := loc = [] ∨ ∃ (i : Int) (s : Str), loc = [(.s sI, .i i), (.s sPrevpart, .s s)]
noncomputable def FB.inQ (a : FB) (pFr : Nat) (as : List Addr) (lines tb1 tb2 : List PySem.Value) (y : Str) (o : Option Nat) (T : Cells) (GT : GL) (r : Result) (H : HS) : Prop :=
  match o with
  | some j => ∃ (f : Str) (oth : List (VV × VV)), (oth = [] ∨ ∃ s : Str, oth = [(.s sPrevpart, .s s)]) ∧ Flows .next (a.fr pFr f y ((.s sI, .i (j : Nat)) :: oth) :: a.vs as lines tb1 tb2) T GT r H
  | none => ∃ (f : Str) (loc : List (VV × VV)), inLoc loc ∧ Flows .cont (a.fr pFr f y loc :: a.vs as lines tb1 tb2) T GT r H
noncomputable def InBOk (C : Cx) (P : Params) (i : Nat) : Prop := ∀ (a : FB) (pFr pI : Nat) (as : List Addr) (ps : List (Str × Str)) (lines tb1 tb2 : List PySem.Value) (f y : Str) (loc : List (VV × VV)), (a.sp = 32 ∨ a.sp = 120 ∨ a.sp = 92) → inLoc loc → i < ps.length → smallP ps →
  ∀ B, okB [[1, 0, 1, 1, 0, 3]] B = true → Sp C (acIn P pFr pI) B ((pI + 281, ⟨.t "range_iterator", none, .fields [.i i, .i i, .i (-1)]⟩) :: a.fr pFr f y loc :: a.vs as lines tb1 tb2) (fun T => Tups T as ps) (a.inQ pFr as lines tb1 tb2 y (lastBp a.sp ps i))
end Mine
namespace Mine
noncomputable def spaceB (sp : Nat) : Bool := decide ((⟨#[sp]⟩ : Str).length > 0) && (⟨#[sp]⟩ : Str).cps.all PySem.Unicode.isSpace
theorem spaceB_eq {sp : Nat} (h : sp = 32 ∨ sp = 120 ∨ sp = 92) : spaceB sp = (sp == 32) := by
  rcases h with rfl | rfl | rfl <;> decide +kernel
end Mine
end -- N17
section -- N18
set_option backward.match.sparseCases false
set_option genSizeOf false
set_option genInjectivity false
open PySem PySem.W PySem.W.X
namespace Mine
noncomputable def appB (W : Int) (sp : Nat) (ls : List Str) (ps : List (Str × Str)) (q : Str × Str) : List Str × List (Str × Str) :=
  if W < (sizeOf2 (ps ++ [q]) : Int) then match lastBp sp (ps ++ [q]) ps.length with
    | some j => (ls ++ [allS ((ps ++ [q]).take j)], (ps ++ [q]).drop j)
    | none => (ls, ps ++ [q])
  else (ls, ps ++ [q])
noncomputable def acBQ (a : FB) (u : List Str × List (Str × Str)) (T : Cells) (GT : GL) (r : Result) (H : HS) : Prop :=
  ∃ (as : List Addr) (lines tb1 tb2 : List PySem.Value) (N : Cells), lenT tb1 ∧ strT tb2 ∧ Tups (T ++ N) as u.2 ∧ lines.map vv = u.1.map VV.s ∧ Rets .none (a.vs as lines tb1 tb2) (T ++ N) GT r H
theorem appB_same {W : Int} {sp : Nat} {ls : List Str} {ps : List (Str × Str)} {q : Str × Str} (h : ¬ W < (sizeOf2 (ps ++ [q]) : Int)) : appB W sp ls ps q = (ls, ps ++ [q]) := by
  unfold appB; rw [if_neg h]
theorem appB_none {W : Int} {sp : Nat} {ls : List Str} {ps : List (Str × Str)} {q : Str × Str} (h : W < (sizeOf2 (ps ++ [q]) : Int)) (hb : lastBp sp (ps ++ [q]) ps.length = none) : appB W sp ls ps q = (ls, ps ++ [q]) := by
  unfold appB; rw [if_pos h, hb]
theorem appB_some {W : Int} {sp j : Nat} {ls : List Str} {ps : List (Str × Str)} {q : Str × Str} (h : W < (sizeOf2 (ps ++ [q]) : Int)) (hb : lastBp sp (ps ++ [q]) ps.length = some j) : appB W sp ls ps q = (ls ++ [allS ((ps ++ [q]).take j)], (ps ++ [q]).drop j) := by
  unfold appB; rw [if_pos h, hb]
theorem lastBp_le {sp : Nat} {ps : List (Str × Str)} : ∀ {i j : Nat}, lastBp sp ps i = some j → 1 ≤ j ∧ j ≤ i
  | 0, j, h => by simp [lastBp] at h
  | i + 1, j, h => by
    unfold lastBp at h
    split at h
    · split at h
      · obtain rfl := Option.some.inj h; (run_tac om)
      · have := lastBp_le h; (run_tac om)
    · cases h
theorem Tups.take {T : Cells} {as : List Addr} {ps : List (Str × Str)} (h : Tups T as ps) (k : Nat) : Tups T (as.take k) (ps.take k) := by
  induction h generalizing k with
  | nil => simp; exact .nil
  | cons o hm a b ho _ ih => cases k with
    | zero => exact .nil
    | succ k => exact .cons o hm a b ho (ih k)
theorem Tups.drop {T : Cells} {as : List Addr} {ps : List (Str × Str)} (h : Tups T as ps) (k : Nat) : Tups T (as.drop k) (ps.drop k) := by
  induction h generalizing k with
  | nil => simp; exact .nil
  | cons o hm a b ho hr ih => cases k with
    | zero => exact .cons o hm a b ho hr
    | succ k => exact ih k
theorem Tups.lens {T : Cells} {as : List Addr} {ps : List (Str × Str)} (h : Tups T as ps) : as.length = ps.length := by
  induction h with
  | nil => rfl
  | cons _ _ _ _ _ _ ih => simp [ih]
noncomputable def AcBOk (C : Cx) : Prop := ∀ (a : FB) (as : List Addr) (ps : List (Str × Str)) (lines tb1 tb2 : List PySem.Value) (ls : List Str) (x y : Str) (k1 k2 : Tok), (a.sp = 32 ∨ a.sp = 120 ∨ a.sp = 92) → lines.map vv = ls.map VV.s → smallP (ps ++ [(x, y)]) → as.length ≤ 400 → lines.length ≤ 500 → lenT tb1 → strT tb2 →
  ∀ B, okB acShapes B = true → Sp C (.call (.ref 91) ⟨[.ref (a.pF + 281), .str x k1, .str y k2], []⟩) B (a.vs as lines tb1 tb2) (fun T => Tups T as ps) (acBQ a (appB a.W a.sp ls ps (x, y)))
end Mine
end -- N18
section -- N19
set_option backward.match.sparseCases false
set_option genSizeOf false
set_option genInjectivity false
open PySem PySem.W PySem.W.X PySem.Builtin PySem.Builtin.Str
namespace Mine
noncomputable def nonWs (s : Str) : Prop := (decide (s.length > 0) && s.cps.all PySem.Unicode.isSpace) = false
noncomputable def OwBOk (C : Cx) : Prop := ∀ (pA pAD : Nat) (as : List Addr) (ps : List (Str × Str)) (tb1 tb2 : List PySem.Value), smallP ps → 1 ≤ sizeOf2 ps → nonWs (allS ps) → lenT tb1 → strT tb2 →
  ∀ B, okB [[0, 0, 1, 0, 3]] B = true → Sp C (.call (.ref 167) ⟨[.ref (pA + 281)], []⟩) B (acmV pA pAD as tb1 tb2) (fun T => Tups T as ps) (owQ pA pAD as)
noncomputable def nlBQ (a : FB) (ls : List Str) (ps : List (Str × Str)) (T : Cells) (GT : GL) (r : Result) (H : HS) : Prop :=
  ∃ (lines tb1 tb2 : List PySem.Value), lenT tb1 ∧ strT tb2 ∧ Rets (.s (glued ⟨#[10]⟩ (ls ++ [allS ps]))) (a.vs [] lines tb1 tb2) T GT r H
noncomputable def NlBOk (C : Cx) : Prop := ∀ (a : FB) (as : List Addr) (ps : List (Str × Str)) (x y : Str) (lines tb1 tb2 : List PySem.Value) (ls : List Str) (kn : Tok), (a.sp = 32 ∨ a.sp = 120 ∨ a.sp = 92) → lines.map vv = ls.map VV.s → smallP (ps ++ [(x, y)]) → 1 ≤ y.length → nonWs (allS (ps ++ [(x, y)])) → as.length ≤ 400 → lines.length ≤ 500 →
  ((ls ++ [allS (ps ++ [(x, y)])]).map (·.length)).sum + (ls ++ [allS (ps ++ [(x, y)])]).length * (⟨#[10]⟩ : Str).length ≤ sizeLine → lenT tb1 → strT tb2 →
  ∀ B, okB [[1, 0, 3]] B = true → Sp C (.call (.ref 42) ⟨[.ref (a.pF + 281), .str ⟨#[10]⟩ kn], []⟩) B (a.vs as lines tb1 tb2) (fun T => Tups T as (ps ++ [(x, y)])) (nlBQ a ls (ps ++ [(x, y)]))
theorem sizeOf2_last {ps : List (Str × Str)} {x y : Str} (h : 1 ≤ y.length) : 1 ≤ sizeOf2 (ps ++ [(x, y)]) := by
  unfold sizeOf2
  rw [List.map_append, List.sum_append]
  simp
  (run_tac om)
end Mine
end -- N19
section -- N20
set_option backward.match.sparseCases false
set_option genSizeOf false
set_option genInjectivity false
open PySem PySem.W PySem.W.X
namespace Mine
noncomputable def sLaw (l : List Nat) : Str := ⟨⟨95 :: 108 :: 97 :: 119 :: 95 :: l ++ [46, 60, 108, 111, 99, 97, 108, 115, 62, 46]⟩⟩
noncomputable def sNumbers : Str := ⟨#[110, 117, 109, 98, 101, 114, 115]⟩
noncomputable def sK : Str := ⟨#[107]⟩
structure NS where
  n0 : Int
  n1 : Int
  n2 : Int
  n3 : Int
  k0 : Tok
  k1 : Tok
  k2 : Tok
  k3 : Tok
noncomputable def NS.vals (N : NS) : List PySem.Value := [.int N.n0 N.k0, .int N.n1 N.k1, .int N.n2 N.k2, .int N.n3 N.k3]
end Mine
namespace Mine
noncomputable def sScript : Str := ⟨#[115, 99, 114, 105, 112, 116]⟩
noncomputable def sNuQ : Str := sLaw [110, 117, 109, 98, 101, 114, 115]
noncomputable def nuC (P : Params) (pI pFr : Nat) : Code := forIn' (bodyOf P 231 1) (envFor P 231 230 sNuQ (pFr + 281)) (pI + 281)
noncomputable def nuCore (pN pFr : Nat) (N : NS) (vs : List PySem.Value) (ve : Nat) (loc : List (VV × VV)) : Vs :=
  [(pN + 281, ⟨.t "list", none, .seqV N.vals⟩), (pFr + 281, ⟨.t "frame", none, .dict ([(.s sScript, .r 280), (.s sNumbers, .r (pN + 281))] ++ loc)⟩), (280, ⟨.t "list", none, .exact (.seq ⟨vs⟩ ve)⟩)]
noncomputable def okNu (loc : List (VV × VV)) : Prop := loc = [] ∨ ∃ j, loc = [(.s sK, .i j)]
noncomputable def nuQ (pN pFr : Nat) (vs : List PySem.Value) (ve : Nat) (T : Cells) (GT : GL) (r : Result) (H : HS) : Prop := ∃ N loc, okNu loc ∧ Flows .next (nuCore pN pFr N vs ve loc) T GT r H
noncomputable def NuOk (C : Cx) (P : Params) (vs : List PySem.Value) (ve : Nat) (f : Nat) : Prop := ∀ (pI pN pFr : Nat) (N : NS) (k : Nat) (loc : List (VV × VV)), k + f = vs.length → okNu loc →
  ∀ B, okB [[0, 0, 3]] B = true → Sp C (nuC P pI pFr) B ((pI + 281, ⟨.t "range_iterator", none, .fields [.i k, .i f, .i 1]⟩) :: nuCore pN pFr N vs ve loc) noP (nuQ pN pFr vs ve)
noncomputable def nsL : List PySem.Value → NS
  | [.int a0 k0, .int a1 k1, .int a2 k2, .int a3 k3] => ⟨a0, a1, a2, a3, k0, k1, k2, k3⟩
  | _ => ⟨0, 0, 0, 0, 0, 0, 0, 0⟩
noncomputable def nsAt (cells : Cells) (j : Nat) : NS := match cellAt cells j with
  | some q => (match q.2.data with
    | .seq xs _ => nsL xs.toList
    | _ => ⟨0, 0, 0, 0, 0, 0, 0, 0⟩)
  | none => ⟨0, 0, 0, 0, 0, 0, 0, 0⟩
open PySem.Builtin.Range in
noncomputable def rngSmallU (m : Int) : Bool := rangeFitsLong 0 && rangeFitsLong m && rangeFitsLong 1 && rangeFitsLong (rangeSize 0 m 1) && (rangeSize 0 m 1 == 0 || (if (1 : Int) > 0 then rangeFitsLong (m + (1 - 1)) else rangeFitsLong (m + (1 + 1))))
open PySem.Builtin.Range in
theorem sizeU {m : Int} (h1 : 0 ≤ m) : rangeSize 0 m 1 = m := by
  unfold rangeSize
  simp
  (run_tac om)
open PySem.Builtin.Range in
theorem smallU {m : Int} (h1 : 0 ≤ m) (h2 : m ≤ 2000) : rngSmallU m = true := by
  unfold rngSmallU
  rw [sizeU h1]
  unfold rangeFitsLong
  simp
  (run_tac om)
open PySem.Builtin.Range in
noncomputable def rngItU (m : Int) : OV := ⟨.t (if rngSmallU m = true then "range_iterator" else "longrange_iterator"), none, .fields [.i 0, .i (rangeSize 0 m 1), .i 1]⟩
theorem itU {m : Int} (h1 : 0 ≤ m) (h2 : m ≤ 2000) : rngItU m = ⟨.t "range_iterator", none, .fields [.i 0, .i m, .i 1]⟩ := by
  unfold rngItU
  rw [smallU h1 h2, sizeU h1]
  rfl
theorem mod4 {k : Nat} {i e : Int} (h : i = (k : Int)) (he : e = Int.fmod i 4) : e = 0 ∨ e = 1 ∨ e = 2 ∨ e = 3 := by
  have h1 := Int.fmod_nonneg_of_pos i (show (0 : Int) < 4 by decide)
  have h2 := Int.fmod_lt_of_pos i (show (0 : Int) < 4 by decide)
  rw [← he] at h1 h2
  (run_tac om)
end Mine
end -- N20
section -- N21
set_option backward.match.sparseCases false
set_option genSizeOf false
set_option genInjectivity false
open PySem PySem.W PySem.W.X
namespace Mine
noncomputable def fldAt (cells : Cells) (j : Nat) : List PySem.Value := match cellAt cells j with
  | some q => (match q.2.data with
    | .fields xs => xs.toList
    | _ => [])
  | none => []
noncomputable def fdAt (cells : Cells) (j : Nat) : FuncData := match cellAt cells j with
  | some q => (match q.2.data with
    | .func fd => fd
    | _ => default)
  | none => default
noncomputable def strTok : List PySem.Value → Nat → Tok
  | l, i => match l.getD i .none with
    | .str _ k => k
    | _ => 0
noncomputable def tail2 : List PySem.Value → List PySem.Value
  | _ :: _ :: l => l
  | _ => []
noncomputable def sLam : Str := ⟨#[60, 108, 97, 109, 98, 100, 97, 62]⟩
noncomputable def sLamQ : Str := ⟨#[95, 108, 97, 119, 95, 108, 101, 120, 101, 114, 46, 60, 108, 111, 99, 97, 108, 115, 62, 46, 60, 108, 97, 109, 98, 100, 97, 62]⟩
noncomputable def tabL (c1 c2 : Nat) : List PySem.Value := [.int 215 0, .int 13 0, .ref (c1 + 281), .int 217 0, .int 4 0, .ref (c2 + 281)]
structure CS where
  c1 : Nat
  c2 : Nat
  j1 : Tok
  j2 : Tok
  m1 : List PySem.Value
  k1 : Tok
  k2 : Tok
  m2 : List PySem.Value
noncomputable def codeV (c : CS) : Vs := [(269, ⟨.none, none, .exact (.fields ⟨tabL c.c1 c.c2⟩)⟩), (c.c1 + 281, ⟨.t "code", none, .exact (.fields ⟨.str sLam c.j1 :: .str sLamQ c.j2 :: c.m1⟩)⟩)]
noncomputable def codeX (c : CS) : Vs := codeV c ++ [(c.c2 + 281, ⟨.t "code", none, .exact (.fields ⟨.str ⟨#[95, 108, 97, 119, 95, 103, 105, 118, 101]⟩ c.k1 :: .str sGive c.k2 :: c.m2⟩)⟩)]
structure Agree (a : LA) (c : CS) (pL : Nat) : Prop where
  l : a.pL = pL
  cc : a.pCC = c.c2
  k1 : a.k1 = c.k1
  k2 : a.k2 = c.k2
  m : a.more = c.m2
noncomputable def lexQ (P : Params) (tx : Str) (pL : Nat) (T : Cells) (GT : GL) (r : Result) (H : HS) : Prop :=
  ∃ (a : LA) (c : CS), Agree a c pL ∧ Rets (.r (a.pX + 281)) (lexV P a tx 0 1 [] ++ codeV c) T GT r H
noncomputable def lexQ2 (P : Params) (tx : Str) (pL : Nat) (c : CS) (T : Cells) (GT : GL) (r : Result) (H : HS) : Prop :=
  ∃ a : LA, Agree a c pL ∧ Rets (.r (a.pX + 281)) (lexV P a tx 0 1 [] ++ codeV c) T GT r H
end Mine
end -- N21
section -- N22
set_option backward.match.sparseCases false
set_option genSizeOf false
set_option genInjectivity false
open PySem PySem.W PySem.W.X
namespace Mine
noncomputable def sgN (e : Int) : Nat := if e = 0 then 120 else if e = 1 then 32 else if e = 2 then 34 else 92
noncomputable def signsS : Str := ⟨#[120, 32, 34, 92]⟩
noncomputable def SgOk (C : Cx) : Prop := ∀ (e : Int) (k j : Tok), 0 ≤ e → e < 4 → ∀ B, okB anySh B = true → Sp C (.builtin "str.__getitem__" ⟨[.str signsS k, .int e j], []⟩) B [] noP (Rets (.s ⟨#[sgN e]⟩) [])
noncomputable def digit (m : Int) (i : Nat) : Int := Int.fmod (Int.fdiv m (4 ^ i)) 4
theorem digit_lt (m : Int) (i : Nat) : 0 ≤ digit m i ∧ digit m i < 4 := ⟨Int.fmod_nonneg_of_pos _ (by decide), Int.fmod_lt_of_pos _ (by decide)⟩
noncomputable def wordOf (m : Int) : Str := ⟨#[sgN (digit m 0), sgN (digit m 1), sgN (digit m 2), sgN (digit m 3)]⟩
noncomputable def WordOk (C : Cx) : Prop := ∀ (m : Int) (k : Tok), ∀ B, okB [[47, 0, 3]] B = true → Sp C (.call (.ref 236) ⟨[.int m k], []⟩) B [] noP (Rets (.s (wordOf m)) [])
end Mine
end -- N22
section -- N23
set_option backward.match.sparseCases false
set_option genSizeOf false
set_option genInjectivity false
open PySem PySem.W PySem.W.X
namespace Mine
noncomputable def bareB (c : Nat) (m : Int) : Bool := c == 120 || (c == 32 && m == 1)
noncomputable def BareOk (C : Cx) : Prop := ∀ (c : Nat) (m : Int) (k j : Tok), ∀ B, okB [[47, 0, 47, 0, 3], [1, 1, 0, 1, 0, 3]] B = true → Sp C (.call (.ref 243) ⟨[.str ⟨#[c]⟩ k, .int m j], []⟩) B [] noP (Rets (.b (bareB c m)) [])
end Mine
end -- N23
section -- N24
set_option backward.match.sparseCases false
set_option genSizeOf false
set_option genInjectivity false
open PySem PySem.W PySem.W.X PySem.SeqAt
namespace Mine
noncomputable def asgV : Stmt → Expr
  | .Assign _ v _ => v
  | _ => default
noncomputable def tupN (i : Nat) : Expr → Expr
  | .Tuple es _ _ => es.getD i default
  | _ => default
noncomputable def compScope : Expr → Scope
  | .ListComp _ _ sc _ => sc
  | .DictComp _ _ _ sc _ => sc
  | _ => default
noncomputable def ownCells (sc : Scope) (own : List Str) : Scope := { sc with names := sc.names.map fun q => match q with | (n, k) => if k == .free && own.contains n then (n, .cell) else (n, k) }
noncomputable def cmpL : Expr → Expr
  | .Compare e _ _ _ => e
  | _ => default
noncomputable def cmpR : Expr → Expr
  | .Compare _ _ (e :: _) _ => e
  | _ => default
noncomputable def callArg (i : Nat) : Expr → Expr
  | .Call _ es _ _ => es.getD i default
  | _ => default
noncomputable def ifTest : Stmt → Expr
  | .If t _ _ _ => t
  | _ => default
noncomputable def lOf {α : Type} {a b : List α} (_ : a = b) : List α := b
noncomputable def compEnvF (e : Expr) (own : List Str) (cells : List (Str × Addr)) (q : Str) (c pC pFr : Nat) : Env :=
  { scope := ownCells (compScope e) own, locals := pC + 281, globals := 3, cells := cells, qual := q, func := none, code := .ref c, frame := some (pFr + 281), builtins := 0 }
theorem ascii_all {cs : List Nat} (h : ∀ c ∈ cs, c < 128) : (if (true && (⟨⟨cs⟩⟩ : Str).cps.all (· < 128)) then "str_ascii_iterator" else "str_iterator") = "str_ascii_iterator" := by
  have : (⟨⟨cs⟩⟩ : Str).cps.all (· < 128) = true := by simpa using h
  rw [this]; rfl
noncomputable def SNx (C : Cx) : Prop := ∀ (pI idx c : Nat) (cs : List Nat), cs[idx]? = some c → ∀ B, okB anySh B = true → Sp C (.builtin "str_ascii_iterator.__next__" ⟨[.ref (pI + 281)], []⟩) B
    [(pI + 281, ⟨.t "str_ascii_iterator", none, .fields [.s ⟨⟨cs⟩⟩, .i (idx : Nat)]⟩)] noP
    (Rets (.s ⟨#[c]⟩) [(pI + 281, ⟨.t "str_ascii_iterator", none, .fields [.s ⟨⟨cs⟩⟩, .i ((idx + 1 : Nat) : Int)]⟩)])
noncomputable def sSign : Str := ⟨#[115, 105, 103, 110]⟩
noncomputable def sManner : Str := ⟨#[109, 97, 110, 110, 101, 114]⟩
noncomputable def sWrQ : Str := sLaw [119, 114, 105, 116, 116, 101, 110]
noncomputable def wrE (P : Params) : Expr := callArg 0 (asgV (bodyOf P 248 0))
noncomputable def esc (c : Nat) (m : Int) : List Nat := if bareB c m = true then [c] else [92, c]
noncomputable def escV (m : Int) (cs : List Nat) : List VV := cs.map fun c => VV.s ⟨⟨esc c m⟩⟩
noncomputable def locS (l : List (VV × VV)) : Prop := l = [] ∨ ∃ v : Str, l = [(.s sSign, .s v)]
noncomputable def WrOk (C : Cx) (P : Params) (m : Int) (rest : List Nat) : Prop := ∀ (pI pA pC pFr pM idx : Nat) (cs : List Nat) (ys : List PySem.Value) (loc : List (VV × VV)), cs.drop idx = rest → ys.length + rest.length ≤ 100 → locS loc →
  ∀ B, okB [[0, 47, 0, 3]] B = true → Sp C (.compLoop (wrE P) 0 (.ref (pI + 281)) (.ref (pA + 281)) (compEnvF (wrE P) [sManner] [(sManner, pM + 281)] sWrQ 247 pC pFr)) B
    [(pI + 281, ⟨.t "str_ascii_iterator", none, .fields [.s ⟨⟨cs⟩⟩, .i (idx : Nat)]⟩), (pA + 281, ⟨.t "list", none, .seqV ys⟩), (pC + 281, ⟨.t "dict", none, .dict loc⟩), (pM + 281, ⟨.t "cell", none, .cell (some (.i m))⟩)] noP
    (fun T GT r H => ∃ ys' loc', ys'.map vv = ys.map vv ++ escV m rest ∧ (loc' = loc ∧ rest = [] ∨ ∃ v : Str, loc' = [(.s sSign, .s v)]) ∧ Flows .next [(pA + 281, ⟨.t "list", none, .seqV ys'⟩), (pC + 281, ⟨.t "dict", none, .dict loc'⟩), (pM + 281, ⟨.t "cell", none, .cell (some (.i m))⟩)] T GT r H)
noncomputable def writ (cs : List Nat) (m : Int) : List Nat := if m = 0 then (cs.map fun c => esc c m).flatten else 34 :: (cs.map fun c => esc c m).flatten ++ [34]
noncomputable def WrittenOk (C : Cx) : Prop := ∀ (cs : List Nat) (m : Int) (k j : Tok), (∀ c ∈ cs, c < 128) → cs ≠ [] → cs.length ≤ 4 → ∀ B, okB [[47, 0, 3]] B = true → Sp C (.call (.ref 248) ⟨[.str ⟨⟨cs⟩⟩ k, .int m j], []⟩) B [] noP (Rets (.s ⟨⟨writ cs m⟩⟩) [])
theorem glued_flat (l : List (List Nat)) : PySem.Builtin.Str.glued ⟨#[]⟩ (l.map fun x => (⟨⟨x⟩⟩ : Str)) = ⟨⟨l.flatten⟩⟩ := by
  run_tac sq0
  (
  have key : ∀ (m : List (List Nat)) (a : Array Nat), (m.map fun x => (⟨⟨x⟩⟩ : Str)).foldl (fun acc p => acc ++ (⟨#[]⟩ : Str).cps ++ p.cps) a = ⟨a.toList ++ m.flatten⟩ := by
    intro m
    induction m with
    | nil => intro a; simp
    | cons x m ih =>
      intro a
      rw [List.map_cons, List.foldl_cons, ih]
      simp
  cases l with
  | nil => rfl
  | cons x l =>
    unfold PySem.Builtin.Str.glued
    simp only [List.map_cons, List.drop_succ_cons, List.drop_zero, List.headD_cons, key]
    rfl
  )
  run_tac sq
theorem esc_le (c : Nat) (m : Int) : (esc c m).length ≤ 2 := by
  unfold esc
  split <;> simp
theorem escs_le (m : Int) : ∀ cs : List Nat, (((cs.map fun c => esc c m).map fun x => (⟨⟨x⟩⟩ : Str)).map (·.length)).sum ≤ 2 * cs.length
  | [] => Nat.le_refl _
  | c :: cs => by
    have := escs_le m cs
    have h2 := esc_le c m
    simp only [List.map_cons, List.sum_cons, List.length_cons]
    have e : (⟨⟨esc c m⟩⟩ : Str).length = (esc c m).length := rfl
    rw [e]
    (run_tac om)
theorem flat_le (m : Int) : ∀ cs : List Nat, ((cs.map fun c => esc c m).flatten).length ≤ 2 * cs.length
  | [] => Nat.le_refl _
  | c :: cs => by
    have := flat_le m cs
    have h2 := esc_le c m
    simp only [List.map_cons, List.flatten_cons, List.length_append, List.length_cons]
    (run_tac om)
theorem escV_eq (m : Int) (cs : List Nat) : escV m cs = ((cs.map fun c => esc c m).map fun x => (⟨⟨x⟩⟩ : Str)).map VV.s := by
  unfold escV
  rw [List.map_map, List.map_map]
  rfl
theorem escV_step {ys : List PySem.Value} {w0 : PySem.Value} {m : Int} {c : Nat} {rest l : List Nat} (hl : esc c m = l) (h : vv w0 = VV.s ⟨⟨l⟩⟩) : (ys ++ [w0]).map vv ++ escV m rest = ys.map vv ++ escV m (c :: rest) := by
  rw [List.map_append, List.append_assoc, List.map_cons, List.map_nil, h, ← hl]
  rfl
theorem esc_yes {c : Nat} {m : Int} (h : bareB c m = true) : esc c m = [c] := if_pos h
theorem esc_no {c : Nat} {m : Int} (h : bareB c m = false) : esc c m = [92, c] := if_neg (by rw [h]; exact Bool.noConfusion)
theorem app_list (a b : List Nat) : (⟨⟨a⟩⟩ : Str) ++ ⟨⟨b⟩⟩ = ⟨⟨a ++ b⟩⟩ := by
  show (⟨(⟨a⟩ : Array Nat) ++ ⟨b⟩⟩ : Str) = _
  congr 1
  simp
theorem len_app (x y : Str) : (x ++ y).length = x.length + y.length := by
  show (x.cps ++ y.cps).size = _
  rw [Array.size_append]
  rfl
theorem at_of {cs : List Nat} {idx c : Nat} {l : List Nat} (h : cs.drop idx = c :: l) : cs[idx]? = some c ∧ cs.drop (idx + 1) = l := by
  have h1 := congrArg (·[0]?) h
  have h2 := congrArg (·.drop 1) h
  simp at h1 h2
  exact ⟨h1, h2⟩
theorem end_of {cs : List Nat} {idx : Nat} (h : cs.drop idx = []) : cs[idx]? = none := by
  rw [List.drop_eq_nil_iff] at h
  simpa using h
end Mine
end -- N24
section -- N25
set_option backward.match.sparseCases false
set_option genSizeOf false
set_option genInjectivity false
open PySem PySem.W PySem.W.X PySem.Builtin.Str
namespace Mine
inductive Objs {α : Type} (P : α → Obj → Prop) (T : Cells) : List Addr → List α → Prop where
  | nil : Objs P T [] []
  | cons {a : Addr} {q : α} {as : List Addr} {ps : List α} (o : Obj) (h : (a, o) ∈ T) (ho : P q o) (r : Objs P T as ps) : Objs P T (a :: as) (q :: ps)
theorem Objs.sub {α : Type} {P : α → Obj → Prop} {T T' : Cells} {as : List Addr} {ps : List α} (h : Objs P T as ps) (hs : ∀ q ∈ T, q ∈ T') : Objs P T' as ps := by
  induction h with
  | nil => exact .nil
  | cons o hm ho _ ih => exact .cons o (hs _ hm) ho ih
theorem Objs.lens {α : Type} {P : α → Obj → Prop} {T : Cells} {as : List Addr} {ps : List α} (h : Objs P T as ps) : as.length = ps.length := by
  induction h with
  | nil => rfl
  | cons _ _ _ _ ih => simp [ih]
theorem Objs.snoc {α : Type} {P : α → Obj → Prop} {T : Cells} {as : List Addr} {ps : List α} {a : Addr} {o : Obj} {q : α} (h : Objs P T as ps) (hm : (a, o) ∈ T) (ho : P q o) : Objs P T (as ++ [a]) (ps ++ [q]) := by
  induction h with
  | nil => exact .cons o hm ho .nil
  | cons o' hm' ho' _ ih => exact .cons o' hm' ho' ih
theorem Objs.at {α : Type} {P : α → Obj → Prop} {T : Cells} {as : List Addr} {ps : List α} (h : Objs P T as ps) {i : Nat} (hi : i < ps.length) : ∃ a q o, as[i]? = some a ∧ ps[i]? = some q ∧ (a, o) ∈ T ∧ P q o := by
  induction h generalizing i with
  | nil => exact absurd hi (by simp)
  | @cons a q _ _ o hm ho _ ih => cases i with
    | zero => exact ⟨a, q, o, rfl, rfl, hm, ho⟩
    | succ i => exact ih (by simpa using hi)
noncomputable def pcO (q : Str × Str) (o : Obj) : Prop := ∃ k j ep, o = { cls := .type "list", data := .seq #[.str q.1 k, .str q.2 j] ep }
noncomputable def seqAt (cells : Cells) (j : Nat) : List PySem.Value := match cellAt cells j with
  | some q => (match q.2.data with
    | .seq xs _ => xs.toList
    | _ => [])
  | none => []
noncomputable def epAt (cells : Cells) (j : Nat) : Nat := match cellAt cells j with
  | some q => (match q.2.data with
    | .seq _ e => e
    | _ => 0)
  | none => 0
noncomputable def isBl (c : Nat) : Bool := c == 32 || c == 9
theorem in_bl (c : Nat) : (!(occurrences (⟨#[32, 9]⟩ : PySem.Str) (⟨#[c]⟩ : PySem.Str) 0 (⟨#[32, 9]⟩ : PySem.Str).length 1).isEmpty) = isBl c := by
  rw [StrLaws.found_one]
  unfold isBl
  rw [Bool.eq_iff_iff]
  simp
noncomputable def LLa (C : Cx) : Prop := ∀ (p1 : Nat) (xs : List PySem.Value) (v : PySem.Value) (tk : Tok), xs.length ≤ 900 → ∀ B, okB anySh B = true → Sp C (.builtin "list.__getitem__" ⟨[.ref (p1 + 281), .int (-1) tk], []⟩) B
    [(p1 + 281, ⟨.t "list", none, .seqV (xs ++ [v])⟩)] noP (Rets (vv v) [(p1 + 281, ⟨.t "list", none, .seqV (xs ++ [v])⟩)])
theorem last_at (xs : List PySem.Value) (v : PySem.Value) : ((seqIndex? (-1) (⟨xs ++ [v]⟩ : Array PySem.Value).size).bind fun k => (⟨xs ++ [v]⟩ : Array PySem.Value)[k]?.map fun v => (k, v)) = some (xs.length, v) := by
  have e : (⟨xs ++ [v]⟩ : Array PySem.Value).size = xs.length + 1 := by simp
  have e2 : seqIndex? (-1) (xs.length + 1) = some xs.length := by
    unfold seqIndex?
    simp
    (run_tac om)
  rw [e, e2]
  simp
noncomputable abbrev PS := List (List Nat × List Nat) × (List Nat × List Nat)
noncomputable def stepP (S : PS) (c : Nat) : PS := if isBl c = true then (if S.2.2 = [] then (S.1, (S.2.1 ++ [c], S.2.2)) else (S.1 ++ [S.2], ([c], []))) else (S.1, (S.2.1, S.2.2 ++ [c]))
noncomputable def sLine : Str := ⟨#[108, 105, 110, 101]⟩
noncomputable def sPieces : Str := ⟨#[112, 105, 101, 99, 101, 115]⟩
noncomputable def sPiQ : Str := sLaw [112, 105, 101, 99, 101, 115]
noncomputable def s2 (q : List Nat × List Nat) : Str × Str := (⟨⟨q.1⟩⟩, ⟨⟨q.2⟩⟩)
noncomputable def pcC (P : Params) (pI pFr : Nat) : Code := forIn' (bodyOf P 255 1) (envFor P 255 254 sPiQ (pFr + 281)) (pI + 281)
noncomputable def pcV (pP pL pFr : Nat) (as : List Addr) (q : List Nat × List Nat) (line : Str) (loc : List (VV × VV)) : Vs :=
  [(pP + 281, ⟨.t "list", none, .seqV (as.map .ref ++ [.ref (pL + 281)])⟩), (pL + 281, ⟨.t "list", none, .seq [.s ⟨⟨q.1⟩⟩, .s ⟨⟨q.2⟩⟩]⟩),
   (pFr + 281, ⟨.t "frame", none, .dict ([(.s sLine, .s line), (.s sPieces, .r (pP + 281))] ++ loc)⟩)]
noncomputable def PcLOk (C : Cx) (P : Params) (rest : List Nat) : Prop := ∀ (pI pP pL pFr idx : Nat) (cs : List Nat) (as : List Addr) (S : PS) (loc : List (VV × VV)), cs.drop idx = rest → (∀ c ∈ rest, c < 128) → as.length + rest.length ≤ 500 → S.2.1.length + S.2.2.length + rest.length ≤ 500 → locS loc →
  ∀ B, okB [[0, 0, 3]] B = true → Sp C (pcC P pI pFr) B ((pI + 281, ⟨.t "str_ascii_iterator", none, .fields [.s ⟨⟨cs⟩⟩, .i (idx : Nat)]⟩) :: pcV pP pL pFr as S.2 ⟨⟨cs⟩⟩ loc) (fun T => Objs pcO T as (S.1.map s2))
    (fun T GT r H => ∃ (as' : List Addr) (pL' : Nat) (loc' : List (VV × VV)) (N : Cells), locS loc' ∧ Objs pcO (T ++ N) as' ((rest.foldl stepP S).1.map s2) ∧ Flows .next (pcV pP pL' pFr as' (rest.foldl stepP S).2 ⟨⟨cs⟩⟩ loc') (T ++ N) GT r H)
noncomputable def piecesOf (cs : List Nat) : List (List Nat × List Nat) := (cs.foldl stepP ([], ([], []))).1 ++ [(cs.foldl stepP ([], ([], []))).2]
noncomputable def PiecesOk (C : Cx) : Prop := ∀ (cs : List Nat) (k : Tok), (∀ c ∈ cs, c < 128) → cs ≠ [] → cs.length ≤ 400 → ∀ B, okB [[0, 3]] B = true → Sp C (.call (.ref 255) ⟨[.str ⟨⟨cs⟩⟩ k], []⟩) B [] noP
  (fun T GT r H => ∃ (pP : Nat) (as : List Addr) (N X : Cells), X = T ++ N ∧ Objs pcO X as ((piecesOf cs).map s2) ∧ Rets (.r (pP + 281)) [(pP + 281, ⟨.t "list", none, .seqV (as.map .ref)⟩)] X GT r H)
end Mine
end -- N25
section -- N26
set_option backward.match.sparseCases false
set_option genSizeOf false
set_option genInjectivity false
open PySem PySem.W PySem.W.X PySem.Builtin.Str
namespace Mine
noncomputable def LGl (C : Cx) : Prop := ∀ (p1 k : Nat) (i : Int) (tk : Tok) (xs : List PySem.Value) (v : PySem.Value), i = (k : Int) → xs[k]? = some v → xs.length ≤ 1000 → ∀ B, okB anySh B = true → Sp C (.builtin "list.__getitem__" ⟨[.ref (p1 + 281), .int i tk], []⟩) B
    [(p1 + 281, ⟨.t "list", none, .seqV xs⟩)] noP (Rets (vv v) [(p1 + 281, ⟨.t "list", none, .seqV xs⟩)])
noncomputable def RNu (C : Cx) : Prop := ∀ (pI : Nat) (i j : Int) (f : Nat), j = i + 1 → ∀ B, okB anySh B = true → Sp C (.builtin "range_iterator.__next__" ⟨[.ref (pI + 281)], []⟩) B
    [(pI + 281, ⟨.t "range_iterator", none, .fields [.i i, .i ((f + 1 : Nat) : Int), .i 1]⟩)] noP
    (Rets (.i i) [(pI + 281, ⟨.t "range_iterator", none, .fields [.i j, .i (f : Int), .i 1]⟩)])
noncomputable def LNx (C : Cx) : Prop := ∀ (pI pL idx : Nat) (xs : List PySem.Value) (v : PySem.Value), xs[idx]? = some v → ∀ B, okB anySh B = true → Sp C (.builtin "list_iterator.__next__" ⟨[.ref (pI + 281)], []⟩) B
    [(pI + 281, ⟨.t "list_iterator", none, .fields [.r (pL + 281), .i idx]⟩), (pL + 281, ⟨.t "list", none, .seqV xs⟩)] noP
    (Rets (vv v) [(pI + 281, ⟨.t "list_iterator", none, .fields [.r (pL + 281), .i ((idx + 1 : Nat) : Int)]⟩), (pL + 281, ⟨.t "list", none, .seqV xs⟩)])
noncomputable def SFi (C : Cx) : Prop := ∀ (c : Nat) (l : List Nat) (k j : Tok), ∀ B, okB anySh B = true → Sp C (.builtin "str.__getitem__" ⟨[.str ⟨⟨c :: l⟩⟩ k, .int 0 j], []⟩) B [] noP (Rets (.s ⟨#[c]⟩) [])
noncomputable def SLa (C : Cx) : Prop := ∀ (c : Nat) (l : List Nat) (k j : Tok), ∀ B, okB anySh B = true → Sp C (.builtin "str.__getitem__" ⟨[.str ⟨⟨l ++ [c]⟩⟩ k, .int (-1) j], []⟩) B [] noP (Rets (.s ⟨#[c]⟩) [])
end Mine
end -- N26
section -- N27
set_option backward.match.sparseCases false
set_option genSizeOf false
set_option genInjectivity false
open PySem PySem.W PySem.W.X PySem.Builtin.Str
namespace Mine
noncomputable def sWidth : Str := ⟨#[119, 105, 100, 116, 104]⟩
noncomputable def sSplitting : Str := ⟨#[115, 112, 108, 105, 116, 116, 105, 110, 103]⟩
noncomputable def sBlocks : Str := ⟨#[98, 108, 111, 99, 107, 115]⟩
noncomputable def sPlace : Str := ⟨#[112, 108, 97, 99, 101]⟩
noncomputable def sSize : Str := ⟨#[115, 105, 122, 101]⟩
noncomputable def sCuQ : Str := sLaw [99, 117, 116, 115]
noncomputable abbrev Pc := List Nat × List Nat
noncomputable def breakB (sp : Nat) (p q : Pc) : Bool := q.1.head? == some sp || p.2.getLast? == some sp
structure BS where
  done : List (Int × Int)
  last : Int × Int
  place : Int
noncomputable def sizeI (q : Pc) : Int := (q.1.length : Int) + (q.2.length : Int)
noncomputable def stepC (sp : Nat) (p q : Pc) (S : BS) : BS :=
  if breakB sp p q = true then ⟨S.done ++ [S.last], (S.place, sizeI q), S.place + sizeI q⟩ else ⟨S.done, (S.last.1, S.last.2 + sizeI q), S.place + sizeI q⟩
noncomputable def runC (sp : Nat) : Pc → List Pc → BS → BS
  | _, [], S => S
  | p, q :: l, S => runC sp q l (stepC sp p q S)
noncomputable def blO (x : Int × Int) (o : Obj) : Prop := ∃ k j ep, o = { cls := .type "list", data := .seq #[.int x.1 k, .int x.2 j] ep }
noncomputable def okPcs (pcs : List Pc) : Prop := (∀ q ∈ pcs.drop 1, q.1 ≠ []) ∧ (∀ q ∈ pcs, q.2 ≠ []) ∧ pcs.length ≤ 400 ∧ ∀ q ∈ pcs, q.1.length ≤ 400 ∧ q.2.length ≤ 400
noncomputable def cuC (P : Params) (pI pFr : Nat) : Code := forIn' (bodyOf P 262 1) (envFor P 262 261 sCuQ (pFr + 281)) (pI + 281)
noncomputable def cuV (pP pB pL pFr : Nat) (W : Int) (sp : Nat) (as bs : List Addr) (S : BS) (k z : Int) : Vs :=
  [(pP + 281, ⟨.t "list", none, .seqV (as.map .ref)⟩), (pB + 281, ⟨.t "list", none, .seqV (bs.map .ref ++ [.ref (pL + 281)])⟩), (pL + 281, ⟨.t "list", none, .seq [.i S.last.1, .i S.last.2]⟩),
   (pFr + 281, ⟨.t "frame", none, .dict [(.s sPieces, .r (pP + 281)), (.s sWidth, .i W), (.s sSplitting, .s ⟨#[sp]⟩), (.s sPlace, .i S.place), (.s sBlocks, .r (pB + 281)), (.s sK, .i k), (.s sSize, .i z)]⟩)]
noncomputable def CuOk (C : Cx) (P : Params) (rest : List Pc) : Prop := ∀ (pI pP pB pL pFr k : Nat) (W : Int) (sp : Nat) (pcs : List Pc) (p : Pc) (as bs : List Addr) (S : BS) (kk z : Int), okPcs pcs → pcs.drop (k + 1) = rest → pcs[k]? = some p → bs.length + rest.length ≤ 400 →
  ∀ B, okB [[0, 1, 0, 3]] B = true → Sp C (cuC P pI pFr) B ((pI + 281, ⟨.t "range_iterator", none, .fields [.i ((k + 1 : Nat) : Int), .i (rest.length : Int), .i 1]⟩) :: cuV pP pB pL pFr W sp as bs S kk z) (fun T => Objs pcO T as (pcs.map s2) ∧ Objs blO T bs S.done)
    (fun T GT r H => ∃ (bs' : List Addr) (pL' : Nat) (kk' z' : Int) (N X : Cells), X = T ++ N ∧ Objs blO X bs' (runC sp p rest S).done ∧ Flows .next (cuV pP pB pL' pFr W sp as bs' (runC sp p rest S) kk' z') X GT r H)
noncomputable def intTok : List PySem.Value → Nat → Tok
  | l, i => match l.getD i .none with
    | .int _ k => k
    | _ => 0
theorem brk_1 {sp c : Nat} {p : Pc} {q1 q2 : List Nat} (h : (([c] : List Nat) == [sp]) = true) : breakB sp p (c :: q1, q2) = true := by
  obtain rfl : c = sp := by simpa using h
  unfold breakB
  simp
theorem brk_2 {sp dd : Nat} {q : Pc} {p1 p3 : List Nat} (h : (([dd] : List Nat) == [sp]) = true) : breakB sp (p1, p3 ++ [dd]) q = true := by
  obtain rfl : dd = sp := by simpa using h
  unfold breakB
  simp
theorem brk_no {sp c dd : Nat} {p1 p3 q1 q2 : List Nat} (h : (([c] : List Nat) == [sp]) = false) (h2 : (([dd] : List Nat) == [sp]) = false) : breakB sp (p1, p3 ++ [dd]) (c :: q1, q2) = false := by
  unfold breakB
  simp at h h2
  simp [h, h2]
theorem runC_yes {sp : Nat} {p q : Pc} {l : List Pc} {done : List (Int × Int)} {x : Int × Int} {place z : Int} (hz : sizeI q = z) (h : breakB sp p q = true) : runC sp p (q :: l) ⟨done, x, place⟩ = runC sp q l ⟨done ++ [x], (place, z), place + z⟩ := by
  show runC sp q l (stepC sp p q _) = _
  unfold stepC
  rw [if_pos h, hz]
theorem runC_no {sp : Nat} {p q : Pc} {l : List Pc} {done : List (Int × Int)} {b x : Int} {place z : Int} (hz : sizeI q = z) (h : breakB sp p q = false) : runC sp p (q :: l) ⟨done, (b, x), place⟩ = runC sp q l ⟨done, (b, x + z), place + z⟩ := by
  show runC sp q l (stepC sp p q _) = _
  unfold stepC
  rw [if_neg (by rw [h]; exact Bool.noConfusion), hz]
end Mine
end -- N27
section -- N28
set_option backward.match.sparseCases false
set_option genSizeOf false
set_option genInjectivity false
open PySem PySem.W PySem.W.X PySem.Builtin.Str
namespace Mine
noncomputable def sRow : Str := ⟨#[114, 111, 119]⟩
noncomputable def sCuts : Str := ⟨#[99, 117, 116, 115]⟩
noncomputable def sBegin : Str := ⟨#[98, 101, 103, 105, 110]⟩
noncomputable def step2 (W : Int) (S : List Int × Int) (x : Int × Int) : List Int × Int := if 0 < S.2 ∧ W < S.2 + x.2 then (S.1 ++ [x.1], 0 + x.2) else (S.1, S.2 + x.2)
noncomputable def cu2C (P : Params) (pI pFr : Nat) : Code := forIn' (bodyOf P 262 3) (envFor P 262 261 sCuQ (pFr + 281)) (pI + 281)
structure Cu2 where
  pP : Nat
  pB : Nat
  pFr : Nat
  pC : Nat
  W : Int
  sp : Nat
  place : Int
  kk : Int
noncomputable def cu2V (I : Cu2) (bs : List Addr) (cs : List PySem.Value) (row z : Int) (loc : List (VV × VV)) : Vs :=
  [(I.pB + 281, ⟨.t "list", none, .seqV (bs.map .ref)⟩), (I.pC + 281, ⟨.t "list", none, .seqV cs⟩),
   (I.pFr + 281, ⟨.t "frame", none, .dict ([(.s sPieces, .r (I.pP + 281)), (.s sWidth, .i I.W), (.s sSplitting, .s ⟨#[I.sp]⟩), (.s sPlace, .i I.place), (.s sBlocks, .r (I.pB + 281)), (.s sK, .i I.kk), (.s sSize, .i z), (.s sRow, .i row), (.s sCuts, .r (I.pC + 281))] ++ loc)⟩)]
noncomputable def locB (l : List (VV × VV)) : Prop := l = [] ∨ ∃ v : Int, l = [(.s sBegin, .i v)]
noncomputable def Cu2Ok (C : Cx) (P : Params) (rest : List (Int × Int)) : Prop := ∀ (I : Cu2) (pI idx : Nat) (bs : List Addr) (bl : List (Int × Int)) (cs : List PySem.Value) (cv : List Int) (row z : Int) (loc : List (VV × VV)), bl.drop idx = rest → cs.map vv = cv.map VV.i → cs.length + rest.length ≤ 800 → bs.length ≤ 900 → locB loc →
  ∀ B, okB [[0, 1, 0, 3]] B = true → Sp C (cu2C P pI I.pFr) B ((pI + 281, ⟨.t "list_iterator", none, .fields [.r (I.pB + 281), .i (idx : Nat)]⟩) :: cu2V I bs cs row z loc) (fun T => Objs blO T bs bl)
    (fun T GT r H => ∃ (cs' : List PySem.Value) (row' z' : Int) (loc' : List (VV × VV)), cs'.map vv = ((rest.foldl (step2 I.W) (cv, row)).1).map VV.i ∧ locB loc' ∧ Flows .next (cu2V I bs cs' row' z' loc') T GT r H)
noncomputable def blocksOf (sp : Nat) : List Pc → List (Int × Int)
  | [] => []
  | q :: l => let S := runC sp q l ⟨[], (0, sizeI q), 0 + sizeI q⟩; S.done ++ [S.last]
noncomputable def cutsOf (W : Int) (sp : Nat) (pcs : List Pc) : List Int := ((blocksOf sp pcs).foldl (step2 W) ([], 0)).1
noncomputable def CutsOk (C : Cx) : Prop := ∀ (pP : Nat) (W : Int) (sp : Nat) (k1 k2 : Tok) (pcs : List Pc) (as : List Addr), okPcs pcs → pcs ≠ [] →
  ∀ B, okB [[1, 0, 3]] B = true → Sp C (.call (.ref 262) ⟨[.ref (pP + 281), .int W k1, .str ⟨#[sp]⟩ k2], []⟩) B [(pP + 281, ⟨.t "list", none, .seqV (as.map .ref)⟩)] (fun T => Objs pcO T as (pcs.map s2))
    (fun T GT r H => ∃ (pC : Nat) (cs : List PySem.Value) (N X : Cells), X = T ++ N ∧ cs.map vv = (cutsOf W sp pcs).map VV.i ∧ Rets (.r (pC + 281)) [(pC + 281, ⟨.t "list", none, .seqV cs⟩), (pP + 281, ⟨.t "list", none, .seqV (as.map .ref)⟩)] X GT r H)
theorem step2_yes {W : Int} {cv : List Int} {row b z : Int} (h1 : 0 < row) (h2 : W < row + z) : step2 W (cv, row) (b, z) = (cv ++ [b], 0 + z) := if_pos ⟨h1, h2⟩
theorem step2_no {W : Int} {cv : List Int} {row b z : Int} (h : ¬ (0 < row ∧ W < row + z)) : step2 W (cv, row) (b, z) = (cv, row + z) := if_neg h
theorem runC_len (sp : Nat) : ∀ (l : List Pc) (p : Pc) (S : BS), (runC sp p l S).done.length ≤ S.done.length + l.length
  | [], _, S => Nat.le_refl _
  | q :: l, p, S => by
    have := runC_len sp l q (stepC sp p q S)
    have h2 : (stepC sp p q S).done.length ≤ S.done.length + 1 := by
      unfold stepC
      split <;> simp
    show (runC sp q l (stepC sp p q S)).done.length ≤ _
    simp only [List.length_cons]
    (run_tac om)
end Mine
end -- N28
section -- N29
set_option backward.match.sparseCases false
set_option genSizeOf false
set_option genInjectivity false
open PySem PySem.W PySem.W.X PySem.Builtin PySem.SeqAt
namespace Mine
theorem any_ints {xs : List PySem.Value} {is : List Int} {u : Int} (hxs : xs.map vv = is.map VV.i) : (xs.toArray.any fun y => match y with | .int x _ => x == u | _ => false) = decide (u ∈ is) := by
  run_tac sq0
  (
  rw [Bool.eq_iff_iff, decide_eq_true_eq]
  simp only [List.any_toArray]
  induction xs generalizing is with
  | nil => cases is with
    | nil => simp
    | cons => simp at hxs
  | cons x xs ih =>
    cases is with
    | nil => simp at hxs
    | cons z is =>
      simp only [List.map_cons, List.cons.injEq] at hxs
      obtain ⟨k, rfl⟩ := vv_i hxs.1
      rw [List.any_cons, Bool.or_eq_true, ih hxs.2, List.mem_cons, beq_iff_eq]
      exact ⟨fun h => h.imp Eq.symm id, fun h => h.imp Eq.symm id⟩
  )
  run_tac sq
theorem ints_eqAt {A : Around} {s : Shared} {xs : List PySem.Value} {is : List Int} {u : Int} {k : Tok} (hxs : xs.map vv = is.map VV.i) : ∀ y, y ∈ xs.toArray → EqAt A s y (.int u k) (match y with | .int x _ => x == u | _ => false) := by
  intro y hy
  have hy : y ∈ xs := by simpa using hy
  have : vv y ∈ xs.map vv := List.mem_map_of_mem hy
  rw [hxs] at this
  obtain ⟨z, _, hz⟩ := List.mem_map.mp this
  obtain ⟨j, rfl⟩ := vv_i hz.symm
  exact EqAt.int_int _ _ _ _
noncomputable def LcI (C : Cx) : Prop := ∀ (p : Nat) (xs : List PySem.Value) (is : List Int) (u : Int) (k : Tok), xs.map vv = is.map VV.i → ∀ B, okB anySh B = true →
  Sp C (.builtin "list.__contains__" ⟨[.ref (p + 281), .int u k], []⟩) B [(p + 281, ⟨.t "list", none, .seqV xs⟩)] noP (Rets (.b (decide (u ∈ is))) [(p + 281, ⟨.t "list", none, .seqV xs⟩)])
theorem lci_t : LcI C := by
  run_tac sq0
  intro p1 xs is u k hxs B hB p T GT cells hc hP
  have hc0 := hc
  obtain ⟨o1, cs1, rfl, eo1, hc⟩ := hc
  obtain rfl : cs1 = T := hc
  obtain ⟨v1, J1, e1⟩ := unov_ofT eo1
  refine ctr_meets PySem.F.entry_list_contains (list_containsAt (p1 + 281) ⟨xs⟩ v1.ep none #[] (.int u k) (fun y => match y with | .int x _ => x == u | _ => false)) rfl fun n t G h gs D hg => ?_
  have hh1 := D.own _ (.head _)
  dsimp only at hh1
  refine ⟨by rw [hh1, e1]; rfl, ints_eqAt hxs, n, t, G, h, gs, _, rfl, D, hg, _, _, rfl, ?_, rfl, hc0⟩
  show VV.b _ = VV.b _
  rw [any_ints hxs]
  run_tac sq
end Mine
end -- N29
section -- N30
set_option backward.match.sparseCases false
set_option genSizeOf false
set_option genInjectivity false
open PySem PySem.W PySem.W.X PySem.Builtin.Str
namespace Mine
noncomputable def sDuQ : Str := sLaw [100, 117, 101]
noncomputable def sDue : Str := ⟨#[100, 117, 101]⟩
noncomputable def sWords : Str := ⟨#[119, 111, 114, 100, 115]⟩
noncomputable def sManners : Str := ⟨#[109, 97, 110, 110, 101, 114, 115]⟩
noncomputable def sCut : Str := ⟨#[99, 117, 116]⟩
noncomputable def binR : Expr → Expr
  | .BinOp _ _ e _ => e
  | _ => default
noncomputable def exS : Stmt → Expr
  | .Expr e _ => e
  | _ => default
noncomputable def duK (P : Params) : Stmt := bodyOf P 267 1
noncomputable def duI (P : Params) : Stmt := inFor (duK P) 2
noncomputable def cmpIn (s : Stmt) : Expr := callArg 0 (binR (tupN 1 (callArg 0 (exS s))))
noncomputable def ce1 (P : Params) : Expr := cmpIn ((ifParts ((ifParts (inFor (duI P) 1)).1.getD 1 default)).1.getD 0 default)
noncomputable def ce2 (P : Params) : Expr := cmpIn ((ifParts (inFor (duK P) 3)).1.getD 0 default)
noncomputable def locC (l : List (VV × VV)) : Prop := l = [] ∨ ∃ v : Int, l = [(.s sCut, .i v)]
noncomputable def cntC (cv : List Int) (p : Int) : Nat := (cv.filter fun x => decide (x ≤ p)).length
theorem drop_cons {α β : Type} {f : α → β} {xs : List α} {idx : Nat} {b : β} {l : List β} (h : (xs.drop idx).map f = b :: l) : ∃ v, xs[idx]? = some v ∧ f v = b ∧ (xs.drop (idx + 1)).map f = l := by
  run_tac sq0
  obtain ⟨v, l', e, h1, h2⟩ := map_cons h
  refine ⟨v, ?_, h1, ?_⟩
  · have := congrArg (·[0]?) e
    simpa using this
  · have := congrArg (·.drop 1) e
    simp only [List.drop_drop, List.drop_succ_cons, List.drop_zero] at this
    rw [this]
    exact h2
  run_tac sq
theorem drop_nil {α β : Type} {f : α → β} {xs : List α} {idx : Nat} (h : (xs.drop idx).map f = []) : xs[idx]? = none := by
  have := List.map_eq_nil_iff.mp h
  have := congrArg (·[0]?) this
  simpa using this
noncomputable def CdOk (C : Cx) (e : Expr) (rest : List Int) : Prop := ∀ (pI pA pCd pFr pPc pC idx : Nat) (xs ys : List PySem.Value) (place : Int) (loc : List (VV × VV)), (xs.drop idx).map vv = rest.map VV.i → ys.length + rest.length ≤ 900 → locC loc →
  ∀ B, okB anySh B = true → Sp C (.compLoop e 0 (.ref (pI + 281)) (.ref (pA + 281)) (compEnvF e [sPlace] [(sPlace, pPc + 281)] sDuQ 266 pCd pFr)) B
    [(pI + 281, ⟨.t "list_iterator", none, .fields [.r (pC + 281), .i idx]⟩), (pA + 281, ⟨.t "list", none, .seqV ys⟩), (pCd + 281, ⟨.t "dict", none, .dict loc⟩), (pC + 281, ⟨.t "list", none, .seqV xs⟩), (pPc + 281, ⟨.t "cell", none, .cell (some (.i place))⟩)] noP
    (fun T GT r H => ∃ ys' loc', ys'.length = ys.length + cntC rest place ∧ locC loc' ∧ Flows .next [(pA + 281, ⟨.t "list", none, .seqV ys'⟩), (pCd + 281, ⟨.t "dict", none, .dict loc'⟩), (pC + 281, ⟨.t "list", none, .seqV xs⟩), (pPc + 281, ⟨.t "cell", none, .cell (some (.i place))⟩)] T GT r H)
noncomputable def CsOk (C : Cx) (e : Expr) : Prop := ∀ (pI pA pCd pFr pPc pC : Nat) (xs : List PySem.Value) (cv : List Int) (place : Int), xs.map vv = cv.map VV.i → cv.length ≤ 900 →
  ∀ B, okB anySh B = true → Sp C (.compStart e 0 (.ref (pI + 281)) (.ref (pA + 281)) (compEnvF e [sPlace] [(sPlace, pPc + 281)] sDuQ 266 pCd pFr)) B
    [(pI + 281, ⟨.t "list_iterator", none, .fields [.r (pC + 281), .i ((0 : Nat) : Int)]⟩), (pA + 281, ⟨.t "list", none, .seqV []⟩), (pCd + 281, ⟨.t "dict", none, .dict []⟩), (pC + 281, ⟨.t "list", none, .seqV xs⟩), (pPc + 281, ⟨.t "cell", none, .cell (some (.i place))⟩)] noP
    (fun T GT r H => ∃ ys' loc', ys'.length = cntC cv place ∧ locC loc' ∧ Flows .next [(pA + 281, ⟨.t "list", none, .seqV ys'⟩), (pCd + 281, ⟨.t "dict", none, .dict loc'⟩), (pC + 281, ⟨.t "list", none, .seqV xs⟩), (pPc + 281, ⟨.t "cell", none, .cell (some (.i place))⟩)] T GT r H)
theorem cnt_yes {x p : Int} {l : List Int} (h : x ≤ p) : cntC (x :: l) p = 1 + cntC l p := by
  unfold cntC
  rw [List.filter_cons, if_pos (decide_eq_true h), List.length_cons, Nat.add_comm]
theorem cnt_no {x p : Int} {l : List Int} (h : ¬ x ≤ p) : cntC (x :: l) p = cntC l p := by
  unfold cntC
  rw [List.filter_cons, if_neg (by simpa using h)]
end Mine
end -- N30
section -- N31
set_option backward.match.sparseCases false
set_option genSizeOf false
set_option genInjectivity false
open PySem PySem.W PySem.W.X PySem.Builtin.Str
namespace Mine
noncomputable def tuO (x : List Nat × Int) (o : Obj) : Prop := ∃ k j ep, o = { cls := .type "tuple", data := .seq #[.str ⟨⟨x.1⟩⟩ k, .int x.2 j] ep }
structure DS where
  ent : List (List Nat × Int)
  tok : List Nat
  place : Int
noncomputable def stepD (cv : List Int) (m : Int) (S : DS) (c : Nat) : DS :=
  if c = 32 ∧ (if bareB c m = true then S.place else S.place + 1) ∈ cv then
    if m = 0 then ⟨S.ent ++ [(S.tok ++ [10], 1 + (cntC cv (if bareB c m = true then S.place else S.place + 1) : Int))], [], (if bareB c m = true then S.place else S.place + 1) + 1⟩
    else ⟨S.ent, S.tok ++ [10] ++ [32], (if bareB c m = true then S.place else S.place + 1) + 1⟩
  else ⟨S.ent, S.tok ++ [c], (if bareB c m = true then S.place else S.place + 1) + 1⟩
theorem stepD_a {cv : List Int} {m p : Int} {S : DS} {c : Nat} (hb : (if bareB c m = true then S.place else S.place + 1) = p) (h : c ≠ 32 ∨ p ∉ cv) : stepD cv m S c = ⟨S.ent, S.tok ++ [c], p + 1⟩ := by
  unfold stepD
  rw [hb, if_neg (fun h' => h.elim (fun h => h h'.1) (fun h => h h'.2))]
theorem stepD_b {cv : List Int} {m p : Int} {S : DS} (hb : (if bareB 32 m = true then S.place else S.place + 1) = p) (h : p ∈ cv) (hm : m = 0) : stepD cv m S 32 = ⟨S.ent ++ [(S.tok ++ [10], 1 + (cntC cv p : Int))], [], p + 1⟩ := by
  unfold stepD
  rw [hb, if_pos ⟨rfl, h⟩, if_pos hm]
theorem stepD_c {cv : List Int} {m p : Int} {S : DS} (hb : (if bareB 32 m = true then S.place else S.place + 1) = p) (h : p ∈ cv) (hm : m ≠ 0) : stepD cv m S 32 = ⟨S.ent, S.tok ++ [10] ++ [32], p + 1⟩ := by
  unfold stepD
  rw [hb, if_pos ⟨rfl, h⟩, if_neg hm]
noncomputable def LLn (C : Cx) : Prop := ∀ (p : Nat) (xs : List PySem.Value), xs.length ≤ 1000 → ∀ B, okB anySh B = true → Sp C (.builtin "len" ⟨[.ref (p + 281)], []⟩) B [(p + 281, ⟨.t "list", none, .seqV xs⟩)] noP (Rets (.i (xs.length : Int)) [(p + 281, ⟨.t "list", none, .seqV xs⟩)])
structure DuP where
  pW : Nat
  pM : Nat
  pC : Nat
  pD : Nat
  pFr : Nat
  pPc : Nat
noncomputable def duE (P : Params) (pFr pPc : Nat) : Env := { envFor P 267 266 sDuQ (pFr + 281) with cells := [(sPlace, pPc + 281)] }
noncomputable def duIC (P : Params) (pI pFr pPc : Nat) : Code := forIn' (duI P) (duE P pFr pPc) (pI + 281)
noncomputable def duV (I : DuP) (ms cs : List PySem.Value) (ds : List Addr) (k : Int) (tok : List Nat) (place : Int) (loc : List (VV × VV)) : Vs :=
  [(I.pD + 281, ⟨.t "list", none, .seqV (ds.map .ref)⟩), (I.pPc + 281, ⟨.t "cell", none, .cell (some (.i place))⟩), (I.pM + 281, ⟨.t "list", none, .seqV ms⟩), (I.pC + 281, ⟨.t "list", none, .seqV cs⟩),
   (I.pFr + 281, ⟨.t "frame", none, .dict ([(.s sWords, .r (I.pW + 281)), (.s sManners, .r (I.pM + 281)), (.s sCuts, .r (I.pC + 281)), (.s sDue, .r (I.pD + 281)), (.s sK, .i k), (.s sToken, .s ⟨⟨tok⟩⟩)] ++ loc)⟩)]
noncomputable def locP (loc : List (VV × VV)) (rest : List Nat) (loc' : List (VV × VV)) : Prop := loc' = loc ∧ rest = [] ∨ ∃ v : Str, loc' = [(.s sSign, .s v)]
theorem locP_cons {v : Str} {c : Nat} {rest : List Nat} {loc loc' : List (VV × VV)} (h : locP [(.s sSign, .s v)] rest loc') : locP loc (c :: rest) loc' := by
  rcases h with ⟨rfl, _⟩ | h
  · exact .inr ⟨_, rfl⟩
  · exact .inr h
noncomputable def DuIOk (C : Cx) (P : Params) (rest : List Nat) : Prop := ∀ (I : DuP) (pI idx kk : Nat) (cs0 : List Nat) (ms cs : List PySem.Value) (cv : List Int) (v : PySem.Value) (m : Int) (ds : List Addr) (S : DS) (loc : List (VV × VV)), cs0.drop idx = rest → cs.map vv = cv.map VV.i → cv.length ≤ 900 → ms[kk]? = some v → vv v = VV.i m → ms.length ≤ 900 → ds.length + rest.length ≤ 900 → S.tok.length + 2 * rest.length ≤ 900 → locS loc →
  ∀ B, okB [[1, 0, 1, 0, 3]] B = true → Sp C (duIC P pI I.pFr I.pPc) B ((pI + 281, ⟨.t "str_ascii_iterator", none, .fields [.s ⟨⟨cs0⟩⟩, .i (idx : Nat)]⟩) :: duV I ms cs ds (kk : Nat) S.tok S.place loc) (fun T => Objs tuO T ds S.ent)
    (fun T GT r H => ∃ (ds' : List Addr) (loc' : List (VV × VV)) (N X : Cells), X = T ++ N ∧ locP loc rest loc' ∧ Objs tuO X ds' (rest.foldl (stepD cv m) S).ent ∧ Flows .next (duV I ms cs ds' (kk : Nat) (rest.foldl (stepD cv m) S).tok (rest.foldl (stepD cv m) S).place loc') X GT r H)
end Mine
end -- N31
section -- N32
set_option backward.match.sparseCases false
set_option genSizeOf false
set_option genInjectivity false
open PySem PySem.W PySem.W.X PySem.Builtin.Str
namespace Mine
noncomputable def notTup (q : Addr × Obj) : Bool := match q.2.cls with
  | .type n => match decide (n = "tuple") with
    | true => false
    | false => true
  | _ => true
noncomputable def allNot : Cells → Bool
  | [] => true
  | q :: l => match notTup q with
    | true => allNot l
    | false => false
theorem objs_down : ∀ (k : Nat) {T' T : Cells} {as : List Addr} {ps : List (List Nat × Int)}, Objs tuO T' as ps → allNot (takeC T' k) = true → dropC T' k = T → Objs tuO T as ps := by
  run_tac sq0
  (
  intro k T' T as ps h e1 e2
  have key : ∀ q ∈ takeC T' k, notTup q = true := by
    intro q hq
    generalize takeC T' k = l at e1 hq
    induction l with
    | nil => cases hq
    | cons x l ih =>
      unfold allNot at e1
      split at e1
      · rename_i h1
        rcases List.mem_cons.mp hq with rfl | hq
        · exact h1
        · exact ih e1 hq
      · cases e1
  have hT := take_drop T' k
  rw [e2] at hT
  induction h with
  | nil => exact .nil
  | cons o hm ho hr ih =>
    refine .cons o ?_ ho ih
    rw [← hT] at hm
    rcases List.mem_append.mp hm with hm | hm
    · have := key _ hm
      obtain ⟨k1, k2, ep, rfl⟩ := ho
      exact absurd this (by simp [notTup])
    · exact hm
  )
  run_tac sq
noncomputable def wordD (cv : List Int) (w : List Nat) (m : Int) (E : List (List Nat × Int) × Int) : List (List Nat × Int) × Int :=
  let S := w.foldl (stepD cv m) ⟨E.1, [], if 0 < m then E.2 + 1 else E.2⟩
  (if S.tok = [] then S.ent else S.ent ++ [(S.tok, 1 + (cntC cv S.place : Int))], (if 0 < m then S.place + 1 else S.place) + 1)
noncomputable def dueRun (cv : List Int) : List (List Nat × Int) → List (List Nat × Int) × Int → List (List Nat × Int) × Int
  | [], E => E
  | (w, m) :: l, E => dueRun cv l (wordD cv w m E)
noncomputable def duOC (P : Params) (pI pFr pPc : Nat) : Code := forIn' (duK P) (duE P pFr pPc) (pI + 281)
noncomputable def locD (l : List (VV × VV)) : Prop := l = [] ∨ ∃ (k : Int) (t s : Str), l = [(.s sK, .i k), (.s sToken, .s t), (.s sSign, .s s)]
noncomputable def duOV (I : DuP) (ws ms cs : List PySem.Value) (ds : List Addr) (place : Int) (loc : List (VV × VV)) : Vs :=
  [(I.pD + 281, ⟨.t "list", none, .seqV (ds.map .ref)⟩), (I.pPc + 281, ⟨.t "cell", none, .cell (some (.i place))⟩), (I.pM + 281, ⟨.t "list", none, .seqV ms⟩), (I.pC + 281, ⟨.t "list", none, .seqV cs⟩), (I.pW + 281, ⟨.t "list", none, .seqV ws⟩),
   (I.pFr + 281, ⟨.t "frame", none, .dict ([(.s sWords, .r (I.pW + 281)), (.s sManners, .r (I.pM + 281)), (.s sCuts, .r (I.pC + 281)), (.s sDue, .r (I.pD + 281))] ++ loc)⟩)]
noncomputable def strL (q : List Nat × Int) : VV := .s ⟨⟨q.1⟩⟩
noncomputable def DuOOk (C : Cx) (P : Params) (rest : List (List Nat × Int)) : Prop := ∀ (I : DuP) (pI kk : Nat) (ws ms cs : List PySem.Value) (cv : List Int) (wl : List (List Nat × Int)) (ds : List Addr) (E : List (List Nat × Int) × Int) (loc : List (VV × VV)), wl.drop kk = rest → ws.map vv = wl.map strL → ms.map vv = wl.map (fun q => VV.i q.2) → (∀ q ∈ wl, q.1.length ≤ 4 ∧ q.1 ≠ [] ∧ ∀ c ∈ q.1, c < 128) → wl.length ≤ 50 → cs.map vv = cv.map VV.i → cv.length ≤ 900 → ds.length + 5 * rest.length ≤ 800 → locD loc →
  ∀ B, okB [[0, 1, 0, 3]] B = true → Sp C (duOC P pI I.pFr I.pPc) B ((pI + 281, ⟨.t "range_iterator", none, .fields [.i (kk : Nat), .i (rest.length : Nat), .i 1]⟩) :: duOV I ws ms cs ds E.2 loc) (fun T => Objs tuO T ds E.1)
    (fun T GT r H => ∃ (ds' : List Addr) (loc' : List (VV × VV)) (N X : Cells), X = T ++ N ∧ locD loc' ∧ Objs tuO X ds' (dueRun cv rest E).1 ∧ Flows .next (duOV I ws ms cs ds' (dueRun cv rest E).2 loc') X GT r H)
noncomputable def DueOk (C : Cx) : Prop := ∀ (pW pM pC : Nat) (ws ms cs : List PySem.Value) (cv : List Int) (wl : List (List Nat × Int)), ws.map vv = wl.map strL → ms.map vv = wl.map (fun q => VV.i q.2) → (∀ q ∈ wl, q.1.length ≤ 4 ∧ q.1 ≠ [] ∧ ∀ c ∈ q.1, c < 128) → wl.length ≤ 50 → cs.map vv = cv.map VV.i → cv.length ≤ 900 →
  ∀ B, okB [[1, 0, 3]] B = true → Sp C (.call (.ref 267) ⟨[.ref (pW + 281), .ref (pM + 281), .ref (pC + 281)], []⟩) B [(pW + 281, ⟨.t "list", none, .seqV ws⟩), (pM + 281, ⟨.t "list", none, .seqV ms⟩), (pC + 281, ⟨.t "list", none, .seqV cs⟩)] noP
    (fun T GT r H => ∃ (pD : Nat) (ds : List Addr) (N X : Cells), X = T ++ N ∧ Objs tuO X ds (dueRun cv wl ([], 0)).1 ∧ Rets (.r (pD + 281)) [(pD + 281, ⟨.t "list", none, .seqV (ds.map .ref)⟩), (pW + 281, ⟨.t "list", none, .seqV ws⟩), (pM + 281, ⟨.t "list", none, .seqV ms⟩), (pC + 281, ⟨.t "list", none, .seqV cs⟩)] X GT r H)
theorem wordD_eq {cv : List Int} {w tok : List Nat} {m place p2 : Int} {ent en2 : List (List Nat × Int)} {p1 : Int} (h1 : (if 0 < m then place + 1 else place) = p1) (h2 : (⟨en2, tok, p2⟩ : DS) = w.foldl (stepD cv m) ⟨ent, [], p1⟩) : wordD cv w m (ent, place) = (if tok = [] then en2 else en2 ++ [(tok, 1 + (cntC cv p2 : Int))], (if 0 < m then p2 + 1 else p2) + 1) := by
  unfold wordD
  dsimp only
  rw [h1, ← h2]
theorem stepD_len (cv : List Int) (m : Int) (S : DS) (c : Nat) : (stepD cv m S c).ent.length ≤ S.ent.length + 1 := by
  unfold stepD
  generalize (if bareB c m = true then S.place else S.place + 1) = p
  split
  · split <;> simp
  · simp
theorem foldD_len (cv : List Int) (m : Int) : ∀ (l : List Nat) (S : DS), (l.foldl (stepD cv m) S).ent.length ≤ S.ent.length + l.length
  | [], S => Nat.le_refl _
  | c :: l, S => by
    have := foldD_len cv m l (stepD cv m S c)
    have h2 := stepD_len cv m S c
    rw [List.foldl_cons, List.length_cons]
    (run_tac om)
end Mine
end -- N32
section -- N33
set_option backward.match.sparseCases false
set_option genSizeOf false
set_option genInjectivity false
open PySem PySem.W PySem.W.X PySem.Builtin.Str
namespace Mine
noncomputable def lawQ : Str := ⟨#[108, 97, 119, 46, 60, 108, 111, 99, 97, 108, 115, 62, 46]⟩
noncomputable def binL : Expr → Expr
  | .BinOp e _ _ _ => e
  | _ => default
noncomputable def sNumber : Str := ⟨#[110, 117, 109, 98, 101, 114]⟩
noncomputable def wdE (P : Params) : Expr := binL (asgV (bodyOf P 279 1))
noncomputable def mnE (P : Params) : Expr := binL (asgV (bodyOf P 279 2))
noncomputable def mnOf (ν : Int) : Int := Int.fmod (Int.fdiv ν 256) 3
noncomputable def NbOk (C : Cx) (e : Expr) (f : Int → VV) : Prop := ∀ (pI pA pC pFr pN : Nat) (N : NS), ∀ B, okB [[0, 3]] B = true →
  Sp C (.compStart e 0 (.ref (pI + 281)) (.ref (pA + 281)) (compEnvF e [] [] lawQ 278 pC pFr)) B
    [(pI + 281, ⟨.t "list_iterator", none, .fields [.r (pN + 281), .i 0]⟩), (pA + 281, ⟨.t "list", none, .seqV []⟩), (pC + 281, ⟨.t "dict", none, .dict []⟩), (pN + 281, ⟨.t "list", none, .seqV N.vals⟩)] noP
    (fun T GT r H => ∃ xs, xs.map vv = [f N.n0, f N.n1, f N.n2, f N.n3] ∧ Flows .next [(pC + 281, ⟨.t "dict", none, .dict [(.s sNumber, .i N.n3)]⟩), (pA + 281, ⟨.t "list", none, .seqV xs⟩), (pN + 281, ⟨.t "list", none, .seqV N.vals⟩)] T GT r H)
end Mine
end -- N33
section -- N34
set_option backward.match.sparseCases false
set_option genSizeOf false
set_option genInjectivity false
open PySem PySem.W PySem.W.X PySem.Builtin.Str
namespace Mine
noncomputable def lnE (P : Params) : Expr := callArg 0 (asgV (bodyOf P 279 3))
noncomputable def cellR (pc p : Nat) : Addr × OV := (pc + 281, ⟨.t "cell", none, .cell (some (.r (p + 281)))⟩)
noncomputable def lnW (w : List Nat) (m : Int) (y : List Nat) : VV := .s ⟨⟨writ w m ++ y⟩⟩
noncomputable def wl5 (a b c d e : List Nat) : Vs := []
noncomputable def LnsOk (C : Cx) (P : Params) : Prop := ∀ (pI pA pC pFr cW cM pW pM : Nat) (w0 w1 w2 w3 w4 : List Nat) (m0 m1 m2 m3 m4 : Int), (∀ w ∈ [w0, w1, w2, w3, w4], (∀ c ∈ w, c < 128) ∧ w ≠ [] ∧ w.length ≤ 4) → ∀ B, okB [[0, 3]] B = true →
  Sp C (.compStart (lnE P) 0 (.ref (pI + 281)) (.ref (pA + 281)) (compEnvF (lnE P) [sWords, sManners] [(sWords, cW + 281), (sManners, cM + 281)] lawQ 278 pC pFr)) B
    [(pI + 281, ⟨.t "range_iterator", none, .fields [.i 0, .i 5, .i 1]⟩), (pA + 281, ⟨.t "list", none, .seqV []⟩), (pC + 281, ⟨.t "dict", none, .dict []⟩), cellR cW pW, cellR cM pM,
     (pW + 281, ⟨.t "list", none, .seq [.s ⟨⟨w0⟩⟩, .s ⟨⟨w1⟩⟩, .s ⟨⟨w2⟩⟩, .s ⟨⟨w3⟩⟩, .s ⟨⟨w4⟩⟩]⟩), (pM + 281, ⟨.t "list", none, .seq [.i m0, .i m1, .i m2, .i m3, .i m4]⟩)] noP
    (fun T GT r H => ∃ xs, xs.map vv = [lnW w0 m0 [32], lnW w1 m1 [9], lnW w2 m2 [32], lnW w3 m3 [9], lnW w4 m4 []] ∧ Flows .next [(pC + 281, ⟨.t "dict", none, .dict [(.s sK, .i 4)]⟩), (pA + 281, ⟨.t "list", none, .seqV xs⟩), cellR cW pW, cellR cM pM,
     (pW + 281, ⟨.t "list", none, .seq [.s ⟨⟨w0⟩⟩, .s ⟨⟨w1⟩⟩, .s ⟨⟨w2⟩⟩, .s ⟨⟨w3⟩⟩, .s ⟨⟨w4⟩⟩]⟩), (pM + 281, ⟨.t "list", none, .seq [.i m0, .i m1, .i m2, .i m3, .i m4]⟩)] T GT r H)
theorem writ_len {w : List Nat} (m : Int) (h : w.length ≤ 4) : (writ w m).length ≤ 10 := by
  have := flat_le m w
  unfold writ
  split
  · (run_tac om)
  · simp only [List.length_cons, List.length_append, List.length_nil]; (run_tac om)
end Mine
end -- N34
section -- N35
set_option backward.match.sparseCases false
set_option genSizeOf false
set_option genInjectivity false
open PySem PySem.W PySem.W.X PySem.Builtin.Str
namespace Mine
noncomputable def wl (m : Int) : List Nat := [sgN (digit m 0), sgN (digit m 1), sgN (digit m 2), sgN (digit m 3)]
noncomputable def wlN (N : NS) : List (List Nat × Int) := [(wl N.n0, mnOf N.n0), (wl N.n1, mnOf N.n1), (wl N.n2, mnOf N.n2), (wl N.n3, mnOf N.n3), ([120], 0)]
noncomputable def lineP (N : NS) : List (List Nat) := [writ (wl N.n0) (mnOf N.n0) ++ [32], writ (wl N.n1) (mnOf N.n1) ++ [9], writ (wl N.n2) (mnOf N.n2) ++ [32], writ (wl N.n3) (mnOf N.n3) ++ [9], writ [120] 0 ++ []]
noncomputable def lineL (N : NS) : List Nat := (lineP N).flatten
theorem sgN_or (e : Int) : sgN e = 120 ∨ sgN e = 32 ∨ sgN e = 34 ∨ sgN e = 92 := by
  unfold sgN
  split
  · exact .inl rfl
  · split
    · exact .inr (.inl rfl)
    · split
      · exact .inr (.inr (.inl rfl))
      · exact .inr (.inr (.inr rfl))
theorem wl_or (m : Int) : ∀ c ∈ wl m, c = 120 ∨ c = 32 ∨ c = 34 ∨ c = 92 := by
  intro c hc
  unfold wl at hc
  simp only [List.mem_cons, List.not_mem_nil, or_false] at hc
  rcases hc with rfl | rfl | rfl | rfl <;> exact sgN_or _
theorem wlN_ok (N : NS) : ∀ q ∈ wlN N, q.1.length ≤ 4 ∧ q.1 ≠ [] ∧ (∀ c ∈ q.1, c < 128) ∧ ∀ c ∈ q.1, c = 120 ∨ c = 32 ∨ c = 34 ∨ c = 92 := by
  run_tac sq0
  have key : ∀ m, (wl m).length ≤ 4 ∧ wl m ≠ [] ∧ (∀ c ∈ wl m, c < 128) ∧ ∀ c ∈ wl m, c = 120 ∨ c = 32 ∨ c = 34 ∨ c = 92 := fun m => by
    refine ⟨Nat.le_refl _, by simp [wl], fun c hc => ?_, wl_or m⟩
    rcases wl_or m c hc with rfl | rfl | rfl | rfl <;> decide
  intro q hq
  unfold wlN at hq
  simp only [List.mem_cons, List.not_mem_nil, or_false] at hq
  rcases hq with rfl | rfl | rfl | rfl | rfl
  · exact key _
  · exact key _
  · exact key _
  · exact key _
  · exact ⟨by decide, by decide, by decide, by decide⟩
  run_tac sq
theorem wlN_5 (N : NS) : ∀ q ∈ [wl N.n0, wl N.n1, wl N.n2, wl N.n3, [120]], (∀ c ∈ q, c < 128) ∧ q ≠ [] ∧ q.length ≤ 4 := by
  run_tac sq0
  intro q hq
  have key := wlN_ok N
  unfold wlN at key
  simp only [List.mem_cons, List.not_mem_nil, or_false] at hq
  rcases hq with rfl | rfl | rfl | rfl | rfl
  · obtain ⟨h1, h2, h3, _⟩ := key _ (.head _); exact ⟨h3, h2, h1⟩
  · obtain ⟨h1, h2, h3, _⟩ := key _ (.tail _ (.head _)); exact ⟨h3, h2, h1⟩
  · obtain ⟨h1, h2, h3, _⟩ := key _ (.tail _ (.tail _ (.head _))); exact ⟨h3, h2, h1⟩
  · obtain ⟨h1, h2, h3, _⟩ := key _ (.tail _ (.tail _ (.tail _ (.head _)))); exact ⟨h3, h2, h1⟩
  · exact ⟨by decide, by decide, by decide⟩
  run_tac sq
theorem lineP_le (N : NS) : ∀ l ∈ lineP N, l.length ≤ 11 := by
  run_tac sq0
  have key := wlN_ok N
  unfold wlN at key
  have k2 : ∀ q ∈ wlN N, (writ q.1 q.2).length ≤ 10 := fun q hq => writ_len q.2 (wlN_ok N q hq).1
  unfold wlN at k2
  have h0 := k2 _ (.head _)
  have h1 := k2 _ (.tail _ (.head _))
  have h2 := k2 _ (.tail _ (.tail _ (.head _)))
  have h3 := k2 _ (.tail _ (.tail _ (.tail _ (.head _))))
  have h4 := k2 _ (.tail _ (.tail _ (.tail _ (.tail _ (.head _)))))
  intro l hl
  unfold lineP at hl
  simp only [List.mem_cons, List.not_mem_nil, or_false] at hl
  rcases hl with rfl | rfl | rfl | rfl | rfl <;> simp only [List.length_append, List.length_cons, List.length_nil] <;> dsimp only at * <;> (run_tac om)
  run_tac sq
theorem line_le (N : NS) : (lineL N).length ≤ 55 := by
  run_tac sq0
  have := lineP_le N
  unfold lineL lineP at *
  have h0 := this _ (.head _)
  have h1 := this _ (.tail _ (.head _))
  have h2 := this _ (.tail _ (.tail _ (.head _)))
  have h3 := this _ (.tail _ (.tail _ (.tail _ (.head _))))
  have h4 := this _ (.tail _ (.tail _ (.tail _ (.tail _ (.head _)))))
  simp only [List.flatten_cons, List.flatten_nil, List.length_append, List.length_nil] at *
  (run_tac om)
  run_tac sq
theorem lineS_le (N : NS) : (((lineP N).map fun x => (⟨⟨x⟩⟩ : Str)).map (·.length)).sum ≤ 55 := by
  have e : (((lineP N).map fun x => (⟨⟨x⟩⟩ : Str)).map (·.length)).sum = (lineL N).length := by
    unfold lineL
    rw [List.length_flatten, List.map_map]
    rfl
  rw [e]
  exact line_le N
theorem writ_mem {w : List Nat} {m : Int} {c : Nat} (h : c ∈ writ w m) : c ∈ w ∨ c = 92 ∨ c = 34 := by
  run_tac sq0
  have key : c ∈ (w.map fun c => esc c m).flatten → c ∈ w ∨ c = 92 := by
    intro h
    obtain ⟨l, hl, hc⟩ := List.mem_flatten.mp h
    obtain ⟨x, hx, rfl⟩ := List.mem_map.mp hl
    unfold esc at hc
    split at hc
    · simp only [List.mem_cons, List.not_mem_nil, or_false] at hc
      exact .inl (hc ▸ hx)
    · simp only [List.mem_cons, List.not_mem_nil, or_false] at hc
      rcases hc with rfl | rfl
      · exact .inr rfl
      · exact .inl hx
  unfold writ at h
  split at h
  · rcases key h with h | h
    · exact .inl h
    · exact .inr (.inl h)
  · rcases List.mem_cons.mp h with h | h
    · exact .inr (.inr h)
    · rcases List.mem_append.mp h with h | h
      · rcases key h with h | h
        · exact .inl h
        · exact .inr (.inl h)
      · exact .inr (.inr (by simpa using h))
  run_tac sq
theorem line_mem (N : NS) : ∀ c ∈ lineL N, c = 120 ∨ c = 32 ∨ c = 34 ∨ c = 92 ∨ c = 9 := by
  run_tac sq0
  have key : ∀ q ∈ wlN N, ∀ c ∈ writ q.1 q.2, c = 120 ∨ c = 32 ∨ c = 34 ∨ c = 92 ∨ c = 9 := by
    intro q hq c hc
    rcases writ_mem hc with h | rfl | rfl
    · rcases (wlN_ok N q hq).2.2.2 c h with rfl | rfl | rfl | rfl <;> decide
    · decide
    · decide
  unfold wlN at key
  have h0 := key _ (.head _)
  have h1 := key _ (.tail _ (.head _))
  have h2 := key _ (.tail _ (.tail _ (.head _)))
  have h3 := key _ (.tail _ (.tail _ (.tail _ (.head _))))
  have h4 := key _ (.tail _ (.tail _ (.tail _ (.tail _ (.head _)))))
  intro c hc
  unfold lineL lineP at hc
  simp only [List.flatten_cons, List.flatten_nil, List.mem_append, List.mem_cons, List.not_mem_nil, or_false] at hc
  rcases hc with (h | rfl) | (h | rfl) | (h | rfl) | (h | rfl) | h
  · exact h0 c h
  · decide
  · exact h1 c h
  · decide
  · exact h2 c h
  · decide
  · exact h3 c h
  · decide
  · exact h4 c h
  run_tac sq
theorem line_ascii (N : NS) : ∀ c ∈ lineL N, c < 128 := by
  intro c hc
  rcases line_mem N c hc with rfl | rfl | rfl | rfl | rfl <;> decide
theorem line_ne (N : NS) : lineL N ≠ [] := by
  intro h
  have : (120 : Nat) ∈ lineL N := by
    unfold lineL lineP
    simp only [List.flatten_cons, List.flatten_nil, List.mem_append]
    refine .inr (.inr (.inr (.inr (.inl (.inl ?_)))))
    decide
  rw [h] at this
  cases this
noncomputable def sumW (pS pI : Nat) (tot : Int) (idx : Nat) (vs : List PySem.Value) (ve : Nat) : Vs :=
  [(pS + 281, ⟨.t "list", none, .seq [.i tot]⟩), (pI + 281, ⟨.t "list_iterator", none, .fields [.r 280, .i idx]⟩), (280, ⟨.t "list", none, .exact (.seq ⟨vs⟩ ve)⟩)]
noncomputable def sumWPost (tot : Int) (vs : List PySem.Value) (ve idx : Nat) (ns : List Int) : Cells → GL → Result → HS → Prop := Rets (.i (tot + (ns.drop idx).sum)) [(280, ⟨.t "list", none, .exact (.seq ⟨vs⟩ ve)⟩)]
noncomputable def SumWOk (C : Cx) (pS pI : Nat) (vs : List PySem.Value) (ve : Nat) (ns : List Int) (st : Int) (k : Nat) : Prop := ∀ (tot : Int) (idx : Nat), vs.length < idx + k ∧ idx ≤ vs.length →
  ∀ B, okB smShapes B = true → Sp C (sumC pS pI st) B (sumW pS pI tot idx vs ve) noP (sumWPost tot vs ve idx ns)
theorem sumW_step {tot : Int} {vs : List PySem.Value} {ve idx : Nat} {ns : List Int} {x : Int} {T : Cells} {GT : GL} {r : Result} {H : HS} (e : ns.drop idx = x :: ns.drop (idx + 1)) (h : sumWPost (tot + x) vs ve (idx + 1) ns T GT r H) : sumWPost tot vs ve idx ns T GT r H := by
  unfold sumWPost at h ⊢
  rw [e, List.sum_cons, ← Int.add_assoc]
  exact h
theorem sumW_end {tot : Int} {vs : List PySem.Value} {ve idx : Nat} {ns : List Int} {T : Cells} {GT : GL} {r : Result} {H : HS} (e : ns.drop idx = []) (h : Rets (.i tot) [(280, ⟨.t "list", none, .exact (.seq ⟨vs⟩ ve)⟩)] T GT r H) : sumWPost tot vs ve idx ns T GT r H := by
  unfold sumWPost
  rw [e]
  simpa using h
end Mine
end -- N35
section -- N36
set_option backward.match.sparseCases false
set_option genSizeOf false
set_option genInjectivity false
open PySem PySem.W PySem.W.X PySem.Builtin.Str
namespace Mine
theorem Sp.along {C : Cx} {c : Code} {B : List (Code × Pos)} {vs : Vs} {P : Cells → Prop} {Q : Cells → GL → Result → HS → Prop} (us : Vs) (h : Sp C c B vs P Q) :
    Sp C c B (vs ++ us) (fun T => ∀ M, Cv M us T → P M) (fun T GT r H => ∃ M, Cv M us T ∧ Q M GT r H) := by
  intro p T GT cells hc hP
  obtain ⟨M, h1, h2⟩ := Cv_append.mp hc
  exact (h p M GT cells h1 (hP M h2)).mono fun r H' h' => ⟨M, h2, h'⟩
theorem Sp.imp {C : Cx} {c : Code} {B : List (Code × Pos)} {vs : Vs} {P P' : Cells → Prop} {Q Q' : Cells → GL → Result → HS → Prop} (h : Sp C c B vs P Q) (hp : ∀ T, P' T → P T) (hq : ∀ T GT r H, Q T GT r H → Q' T GT r H) : Sp C c B vs P' Q' :=
  fun p T GT cells hc hP => (h p T GT cells hc (hp T hP)).mono fun r H' => hq T GT r H'
noncomputable def not2 {α : Type} : List α → Bool
  | [_, _] => false
  | _ => true
noncomputable def kvNo : KV → Bool
  | .exact (.fields _) => true
  | .exact (.func _) => true
  | .seqV l => not2 l
  | .seq l => not2 l
  | .exact _ => false
  | .other => false
  | _ => true
noncomputable def noPair (cn : String) (x : OV) : Bool := match x.cls with
  | .t n => match decide (n = cn) with
    | true => kvNo x.kv
    | false => true
  | _ => true
noncomputable def noPairs (cn : String) : Vs → Bool
  | [] => true
  | q :: l => match noPair cn q.2 with
    | true => noPairs cn l
    | false => false
noncomputable def pairO (cn : String) (o : Obj) : Prop := ∃ a b ep, o = { cls := .type cn, data := .seq #[a, b] ep }
theorem noPair_no {cn : String} {x : OV} {o : Obj} (h : noPair cn x = true) (e : ovT x o = x) (hp : pairO cn o) : False := by
  run_tac sq0
  obtain ⟨a, b, ep, rfl⟩ := hp
  obtain ⟨c, dd, k⟩ := x
  unfold ovT at e
  simp only [OV.mk.injEq] at e
  obtain ⟨e1, _, e3⟩ := e
  unfold noPair at h
  dsimp only at h e3
  rw [← e1] at h
  change (match decide (cn = cn) with | true => kvNo k | false => true) = true at h
  rw [decide_eq_true rfl] at h
  dsimp only at h
  rcases kvT_cases k (.seq #[a, b] ep) with h1 | h1 | ⟨xs, ep', hd, h1⟩
  · rw [h1] at e3; rw [← e3] at h; exact absurd h (by simp [kv, kvNo, not2])
  · rw [h1] at e3; rw [← e3] at h; exact absurd h (by simp [kvNo])
  · rw [h1] at e3
    injection hd with hd _
    rw [← e3, ← hd] at h; exact absurd h (by simp [kvNo, not2])
  run_tac sq
theorem cv_objs {α : Type} {P : α → Obj → Prop} {cn : String} (hPc : ∀ x o, P x o → pairO cn o) {us : Vs} {M T N : Cells} {as : List Addr} {ps : List α} (hu : noPairs cn us = true) (hc : Cv M us T) (h : Objs P (M ++ N) as ps) : Objs P (T ++ N) as ps := by
  run_tac sq0
  (
  induction us generalizing M with
  | nil => cases hc; exact h
  | cons q us ih =>
    obtain ⟨o, cs, rfl, eo, hc⟩ := hc
    unfold noPairs at hu
    split at hu
    · rename_i h1
      refine ih hu hc ?_
      clear ih hc hu
      induction h with
      | nil => exact .nil
      | cons o' hm ho hr ih =>
        refine .cons o' ?_ ho ih
        rcases List.mem_cons.mp hm with hm | hm
        · injection hm with _ hm
          subst hm
          exact absurd (hPc _ _ ho) (fun h => noPair_no h1 eo h)
        · exact hm
    · cases hu
  )
  run_tac sq
theorem Cv.tail {us : Vs} {M T : Cells} (N : Cells) (h : Cv M us T) : Cv (M ++ N) us (T ++ N) := by
  induction us generalizing M with
  | nil => cases h; exact rfl
  | cons q us ih =>
    obtain ⟨o, cs, rfl, eo, h⟩ := h
    exact ⟨o, cs ++ N, rfl, eo, ih h⟩
theorem Rets.along {x : VV} {vs us : Vs} {M T N : Cells} {GT : GL} {r : Result} {H : HS} (h : Rets x vs (M ++ N) GT r H) (hc : Cv M us T) : Rets x (vs ++ us) (T ++ N) GT r H := by
  obtain ⟨v, cells, rfl, hv, rfl, h⟩ := h
  exact ⟨v, cells, rfl, hv, rfl, Cv_append.mpr ⟨_, h, hc.tail N⟩⟩
theorem Flows.along {f : Flow} {vs us : Vs} {M T N : Cells} {GT : GL} {r : Result} {H : HS} (h : Flows f vs (M ++ N) GT r H) (hc : Cv M us T) : Flows f (vs ++ us) (T ++ N) GT r H := by
  obtain ⟨cells, rfl, rfl, h⟩ := h
  exact ⟨cells, rfl, rfl, Cv_append.mpr ⟨_, h, hc.tail N⟩⟩
theorem pcO_pair : ∀ x o, pcO x o → pairO "list" o := fun _ _ ⟨_, _, _, e⟩ => ⟨_, _, _, e⟩
theorem tuO_pair : ∀ x o, tuO x o → pairO "tuple" o := fun _ _ ⟨_, _, _, e⟩ => ⟨_, _, _, e⟩
theorem script_pc {vs : List PySem.Value} {ve : Nat} {ns : List Int} (hns : vs.map vv = ns.map VV.i) {o : Obj} (e : ovT ⟨.t "list", none, .exact (.seq ⟨vs⟩ ve)⟩ o = ⟨.t "list", none, .exact (.seq ⟨vs⟩ ve)⟩) {x : Str × Str} (h : pcO x o) : False := by
  run_tac sq0
  (
  obtain ⟨k, j, ep, rfl⟩ := h
  unfold ovT at e
  simp only [OV.mk.injEq] at e
  obtain ⟨_, _, e⟩ := e
  change KV.exact (.seq #[.str x.1 k, .str x.2 j] ep) = _ at e
  injection e with e
  injection e with e _
  have e : [PySem.Value.str x.1 k, .str x.2 j] = vs := congrArg Array.toList e
  rw [← e] at hns
  cases ns with
  | nil => cases hns
  | cons a ns =>
    simp only [List.map_cons, List.cons.injEq] at hns
    exact VV.noConfusion hns.1
  )
  run_tac sq
noncomputable def PiecesV (C : Cx) (vs : List PySem.Value) (ve : Nat) : Prop := ∀ (us : Vs), noPairs "list" us = true → ∀ (cs : List Nat) (k : Tok), (∀ c ∈ cs, c < 128) → cs ≠ [] → cs.length ≤ 400 → ∀ B, okB [[0, 3]] B = true →
  Sp C (.call (.ref 255) ⟨[.str ⟨⟨cs⟩⟩ k], []⟩) B ((280, ⟨.t "list", none, .exact (.seq ⟨vs⟩ ve)⟩) :: us) noP
  (fun T GT r H => ∃ (pP : Nat) (as : List Addr) (N : Cells), Objs pcO (T ++ N) as ((piecesOf cs).map s2) ∧ Rets (.r (pP + 281)) ((pP + 281, ⟨.t "list", none, .seqV (as.map .ref)⟩) :: (280, ⟨.t "list", none, .exact (.seq ⟨vs⟩ ve)⟩) :: us) (T ++ N) GT r H)
theorem pieces_v {C : Cx} {vs : List PySem.Value} {ve : Nat} {ns : List Int} (hns : vs.map vv = ns.map VV.i) (h : PiecesOk C) : PiecesV C vs ve := by
  run_tac sq0
  (
  intro us hu cs k h1 h2 h3 B hB
  refine (Sp.along ((280, ⟨.t "list", none, .exact (.seq ⟨vs⟩ ve)⟩) :: us) (h cs k h1 h2 h3 B hB)).imp (fun _ _ _ _ => trivial) ?_
  rintro T GT r H ⟨M, hM, pP, as, N, X, rfl, hO, hR⟩
  refine ⟨pP, as, N, ?_, hR.along hM⟩
  obtain ⟨o, cs, rfl, eo, hM⟩ := hM
  refine cv_objs pcO_pair hu hM ?_
  clear hR hM
  generalize (piecesOf _).map s2 = ps at hO ⊢
  induction hO with
  | nil => exact .nil
  | cons o' hm ho hr ih =>
    refine .cons o' ?_ ho ih
    rcases List.mem_cons.mp hm with hm | hm
    · injection hm with _ hm
      subst hm
      exact (script_pc hns eo ho).elim
    · exact hm
  )
  run_tac sq
noncomputable def DueV (C : Cx) : Prop := ∀ (us : Vs), noPairs "tuple" us = true → ∀ (pW pM pC : Nat) (ws ms cs : List PySem.Value) (cv : List Int) (wl : List (List Nat × Int)), ws.map vv = wl.map strL → ms.map vv = wl.map (fun q => VV.i q.2) → (∀ q ∈ wl, q.1.length ≤ 4 ∧ q.1 ≠ [] ∧ ∀ c ∈ q.1, c < 128) → wl.length ≤ 50 → cs.map vv = cv.map VV.i → cv.length ≤ 900 →
  ∀ B, okB [[1, 0, 3]] B = true → Sp C (.call (.ref 267) ⟨[.ref (pW + 281), .ref (pM + 281), .ref (pC + 281)], []⟩) B ([(pW + 281, ⟨.t "list", none, .seqV ws⟩), (pM + 281, ⟨.t "list", none, .seqV ms⟩), (pC + 281, ⟨.t "list", none, .seqV cs⟩)] ++ us) noP
    (fun T GT r H => ∃ (pD : Nat) (ds : List Addr) (N : Cells), Objs tuO (T ++ N) ds (dueRun cv wl ([], 0)).1 ∧ Rets (.r (pD + 281)) ([(pD + 281, ⟨.t "list", none, .seqV (ds.map .ref)⟩), (pW + 281, ⟨.t "list", none, .seqV ws⟩), (pM + 281, ⟨.t "list", none, .seqV ms⟩), (pC + 281, ⟨.t "list", none, .seqV cs⟩)] ++ us) (T ++ N) GT r H)
theorem due_v {C : Cx} (h : DueOk C) : DueV C := by
  run_tac sq0
  intro us hu pW pM pC ws ms cs cv wl h1 h2 h3 h4 h5 h6 B hB
  refine (Sp.along us (h pW pM pC ws ms cs cv wl h1 h2 h3 h4 h5 h6 B hB)).imp (fun _ _ _ _ => trivial) ?_
  rintro T GT r H ⟨M, hM, pD, ds, N, X, rfl, hO, hR⟩
  exact ⟨pD, ds, N, cv_objs tuO_pair hu hM hO, hR.along hM⟩
  run_tac sq
end Mine
end -- N36
section -- N37
set_option backward.match.sparseCases false
set_option genSizeOf false
set_option genInjectivity false
open PySem PySem.W PySem.W.X PySem.Builtin.Str
namespace Mine
theorem Cv.mem {us : Vs} {M T : Cells} (h : Cv M us T) : ∀ q ∈ T, q ∈ M := by
  induction us generalizing M with
  | nil => cases h; exact fun _ h => h
  | cons q us ih =>
    obtain ⟨o, cs, rfl, eo, h⟩ := h
    exact fun x hx => .tail _ (ih h x hx)
theorem tups_objs {T : Cells} {as : List Addr} {ps : List (Str × Str)} : Tups T as ps ↔ Objs (fun q o => ∃ k j, tupO q.1 q.2 k j o) T as ps := by
  run_tac sq0
  constructor
  · intro h
    induction h with
    | nil => exact .nil
    | cons o hm k j ho _ ih => exact .cons o hm ⟨k, j, ho⟩ ih
  · intro h
    induction h with
    | nil => exact .nil
    | cons o hm ho _ ih =>
      obtain ⟨k, j, ho⟩ := ho
      exact .cons o hm k j ho ih
  run_tac sq
theorem cv_tups {us : Vs} {M T N : Cells} {as : List Addr} {ps : List (Str × Str)} (hu : noPairs "tuple" us = true) (hc : Cv M us T) (h : Tups (M ++ N) as ps) : Tups (T ++ N) as ps :=
  tups_objs.mpr (cv_objs (fun _ _ ⟨_, _, _, e⟩ => ⟨_, _, _, e⟩) hu hc (tups_objs.mp h))
noncomputable def AcBV (C : Cx) : Prop := ∀ (us : Vs), noPairs "tuple" us = true → ∀ (a : FB) (as : List Addr) (ps : List (Str × Str)) (lines tb1 tb2 : List PySem.Value) (ls : List Str) (x y : Str) (k1 k2 : Tok), (a.sp = 32 ∨ a.sp = 120 ∨ a.sp = 92) → lines.map vv = ls.map VV.s → smallP (ps ++ [(x, y)]) → as.length ≤ 400 → lines.length ≤ 500 → lenT tb1 → strT tb2 →
  ∀ B, okB acShapes B = true → Sp C (.call (.ref 91) ⟨[.ref (a.pF + 281), .str x k1, .str y k2], []⟩) B (a.vs as lines tb1 tb2 ++ us) (fun T => Tups T as ps)
    (fun T GT r H => ∃ (as' : List Addr) (lines' tb1' tb2' : List PySem.Value) (N : Cells), lenT tb1' ∧ strT tb2' ∧ Tups (T ++ N) as' (appB a.W a.sp ls ps (x, y)).2 ∧ lines'.map vv = (appB a.W a.sp ls ps (x, y)).1.map VV.s ∧ Rets .none (a.vs as' lines' tb1' tb2' ++ us) (T ++ N) GT r H)
theorem acB_v {C : Cx} (h : AcBOk C) : AcBV C := by
  run_tac sq0
  intro us hu a as ps lines tb1 tb2 ls x y k1 k2 h1 h2 h3 h4 h5 h6 h7 B hB
  refine (Sp.along us (h a as ps lines tb1 tb2 ls x y k1 k2 h1 h2 h3 h4 h5 h6 h7 B hB)).imp (fun T hT M hM => hT.sub hM.mem) ?_
  rintro T GT r H ⟨M, hM, as', lines', tb1', tb2', N, g1, g2, g3, g4, g5⟩
  exact ⟨as', lines', tb1', tb2', N, g1, g2, cv_tups hu hM g3, g4, g5.along hM⟩
  run_tac sq
noncomputable def sMaker : Str := ⟨#[109, 97, 107, 101, 114]⟩
noncomputable def sBlanks : Str := ⟨#[98, 108, 97, 110, 107, 115]⟩
noncomputable def sTold : Str := ⟨#[116, 111, 108, 100]⟩
noncomputable def sLex : Str := ⟨#[108, 101, 120]⟩
noncomputable def lawFor (P : Params) : Stmt := bodyOf P 279 6
noncomputable def lawE (P : Params) (n : Nat) : Env := { envFor P 279 278 lawQ (n + 281) with cells := [(sLex, n + 286), (sCuts, n + 285), (sLine, n + 284), (sManners, n + 283), (sWords, n + 282)] }
noncomputable def lawC (P : Params) (pI n : Nat) : Code := forIn' (lawFor P) (lawE P n) (pI + 281)
noncomputable def apC (P : Params) (pI n : Nat) : Code := forIn' (inFor (lawFor P) 1) (lawE P n) (pI + 281)
noncomputable def fullT (tl : List (VV × VV)) : Prop := tl = [] ∨ ∃ (tx : Str) (r1 r2 r3 : Nat), tl = [(.s sText, .s tx), (.s sDue, .r (r1 + 281)), (.s sAt, .r (r2 + 281)), (.s sTold, .r (r3 + 281))]
noncomputable def locAp (tl loc : List (VV × VV)) : Prop := (loc = [] ∧ tl = []) ∨ ∃ b p : Str, loc = [(.s sBlanks, .s b), (.s sPart, .s p)] ++ tl
noncomputable def apFr (n l pP : Nat) (a : FB) (loc : List (VV × VV)) : Addr × OV := (n + 281, ⟨.t "frame", none, .dict ([(.s sScript, .r 280), (.s sNumbers, .r (l + 281)), (.s sPieces, .r (pP + 281)), (.s sWidth, .i a.W), (.s sSplitting, .s ⟨#[a.sp]⟩), (.s sMaker, .r (a.pF + 281))] ++ loc)⟩)
noncomputable def appR (W : Int) (sp : Nat) (l : List Pc) (u : List Str × List (Str × Str)) : List Str × List (Str × Str) := l.foldl (fun u q => appB W sp u.1 u.2 (s2 q)) u
noncomputable def ApOk (C : Cx) (P : Params) (rest : List Pc) : Prop := ∀ (n l pP pI idx : Nat) (a : FB) (pcs : List Pc) (as0 as : List Addr) (ps : List (Str × Str)) (lines tb1 tb2 : List PySem.Value) (ls : List Str) (loc tl : List (VV × VV)), (a.sp = 32 ∨ a.sp = 120 ∨ a.sp = 92) → pcs.drop idx = rest → lines.map vv = ls.map VV.s → (∀ q ∈ pcs, q.1.length ≤ 400 ∧ q.2.length ≤ 400) → pcs.length ≤ 400 → smallP ps → ps.length + rest.length ≤ 300 → ls.length + rest.length ≤ 300 → lenT tb1 → strT tb2 → fullT tl → locAp tl loc →
  ∀ B, okB [[1, 0, 3]] B = true → Sp C (apC P pI n) B ((pI + 281, ⟨.t "list_iterator", none, .fields [.r (pP + 281), .i (idx : Nat)]⟩) :: apFr n l pP a loc :: (pP + 281, ⟨.t "list", none, .seqV (as0.map .ref)⟩) :: a.vs as lines tb1 tb2) (fun T => Objs pcO T as0 (pcs.map s2) ∧ Tups T as ps)
    (fun T GT r H => ∃ (as' : List Addr) (lines' tb1' tb2' : List PySem.Value) (loc' : List (VV × VV)) (N : Cells), lenT tb1' ∧ strT tb2' ∧ Tups (T ++ N) as' (appR a.W a.sp rest (ls, ps)).2 ∧ lines'.map vv = (appR a.W a.sp rest (ls, ps)).1.map VV.s ∧ locAp tl loc' ∧ (loc' = [] → loc = [] ∧ rest = []) ∧ Flows .next (apFr n l pP a loc' :: (pP + 281, ⟨.t "list", none, .seqV (as0.map .ref)⟩) :: a.vs as' lines' tb1' tb2') (T ++ N) GT r H)
theorem appR_cons (W : Int) (sp : Nat) (q1 q2 : List Nat) (l : List Pc) (ls : List Str) (ps : List (Str × Str)) : appR W sp ((q1, q2) :: l) (ls, ps) = appR W sp l (appB W sp ls ps (⟨⟨q1⟩⟩, ⟨⟨q2⟩⟩)) := rfl
theorem Prs0 {T T' : Cells} {as : List Addr} {ps : List (Str × Str)} (h : Tups T as ps) (e : T' = T) : Tups T' as ps := e ▸ h
theorem appB_small {W : Int} {sp : Nat} {ls : List Str} {ps : List (Str × Str)} {q : Str × Str} : (appB W sp ls ps q).1.length ≤ ls.length + 1 ∧ (appB W sp ls ps q).2.length ≤ ps.length + 1 ∧ ∀ x ∈ (appB W sp ls ps q).2, x ∈ ps ∨ x = q := by
  run_tac sq0
  have key : ∀ x ∈ ps ++ [q], x ∈ ps ∨ x = q := fun x hx => by simpa using hx
  unfold appB
  split
  · split
    · refine ⟨by simp, by simp, fun x hx => key x (List.mem_of_mem_drop hx)⟩
    · exact ⟨by simp, by simp, key⟩
  · exact ⟨by simp, by simp, key⟩
  run_tac sq
end Mine
end -- N37
section -- N38
set_option backward.match.sparseCases false
set_option genSizeOf false
set_option genInjectivity false
open PySem PySem.W PySem.W.X PySem.Builtin PySem.SeqAt
namespace Mine
noncomputable def SAt (C : Cx) : Prop := ∀ (cs : List Nat) (k c : Nat) (i : Int) (t j : Tok), i = (k : Int) → cs[k]? = some c → cs.length ≤ 1000 → ∀ B, okB anySh B = true → Sp C (.builtin "str.__getitem__" ⟨[.str ⟨⟨cs⟩⟩ t, .int i j], []⟩) B [] noP (Rets (.s ⟨#[c]⟩) [])
noncomputable def ckL (cv : List Int) : Nat → List Nat → List (List Nat)
  | _, [] => []
  | k, c :: l => (if ((k : Nat) : Int) ∈ cv then [10, c] else [c]) :: ckL cv (k + 1) l
noncomputable def ckE (P : Params) : Expr := callArg 0 (cmpR (ifTest (inFor (lawFor P) 4)))
noncomputable def locK (l : List (VV × VV)) : Prop := l = [] ∨ ∃ v : Int, l = [(.s sK, .i v)]
noncomputable def CkOk (C : Cx) (P : Params) (rest : List Nat) : Prop := ∀ (pI pA pCd n pC k : Nat) (ln : List Nat) (cs ys : List PySem.Value) (cv : List Int) (loc : List (VV × VV)), ln.drop k = rest → cs.map vv = cv.map VV.i → ys.length + rest.length ≤ 900 → ln.length ≤ 900 → locK loc →
  ∀ B, okB [[1, 0, 3]] B = true → Sp C (.compLoop (ckE P) 0 (.ref (pI + 281)) (.ref (pA + 281)) (compEnvF (ckE P) [sCuts, sLine] [(sLine, n + 284), (sCuts, n + 285)] lawQ 278 pCd n)) B
    [(pI + 281, ⟨.t "range_iterator", none, .fields [.i (k : Nat), .i (rest.length : Nat), .i 1]⟩), (pA + 281, ⟨.t "list", none, .seqV ys⟩), (pCd + 281, ⟨.t "dict", none, .dict loc⟩), (n + 284, ⟨.t "cell", none, .cell (some (.s ⟨⟨ln⟩⟩))⟩), (n + 285, ⟨.t "cell", none, .cell (some (.r (pC + 281)))⟩), (pC + 281, ⟨.t "list", none, .seqV cs⟩)] noP
    (fun T GT r H => ∃ ys' loc', ys'.map vv = ys.map vv ++ ((ckL cv k rest).map fun x => VV.s ⟨⟨x⟩⟩) ∧ (loc' = loc ∧ rest = [] ∨ ∃ v : Int, loc' = [(.s sK, .i v)]) ∧ Flows .next [(pA + 281, ⟨.t "list", none, .seqV ys'⟩), (pCd + 281, ⟨.t "dict", none, .dict loc'⟩), (n + 284, ⟨.t "cell", none, .cell (some (.s ⟨⟨ln⟩⟩))⟩), (n + 285, ⟨.t "cell", none, .cell (some (.r (pC + 281)))⟩), (pC + 281, ⟨.t "list", none, .seqV cs⟩)] T GT r H)
theorem ck_yes {ys : List PySem.Value} {w0 : PySem.Value} {cv : List Int} {k c : Nat} {rest : List Nat} (h : (k : Int) ∈ cv) (hv : vv w0 = VV.s ⟨⟨[10, c]⟩⟩) : (ys ++ [w0]).map vv ++ ((ckL cv (k + 1) rest).map fun x => VV.s ⟨⟨x⟩⟩) = ys.map vv ++ ((ckL cv k (c :: rest)).map fun x => VV.s ⟨⟨x⟩⟩) := by
  rw [List.map_append, List.append_assoc, List.map_cons, List.map_nil, hv]
  rw [show ckL cv k (c :: rest) = (if (k : Int) ∈ cv then [10, c] else [c]) :: ckL cv (k + 1) rest from rfl, if_pos h]
  rfl
theorem ck_no {ys : List PySem.Value} {w0 : PySem.Value} {cv : List Int} {k c : Nat} {rest : List Nat} (h : ¬ (k : Int) ∈ cv) (hv : vv w0 = VV.s ⟨⟨[c]⟩⟩) : (ys ++ [w0]).map vv ++ ((ckL cv (k + 1) rest).map fun x => VV.s ⟨⟨x⟩⟩) = ys.map vv ++ ((ckL cv k (c :: rest)).map fun x => VV.s ⟨⟨x⟩⟩) := by
  rw [List.map_append, List.append_assoc, List.map_cons, List.map_nil, hv]
  rw [show ckL cv k (c :: rest) = (if (k : Int) ∈ cv then [10, c] else [c]) :: ckL cv (k + 1) rest from rfl, if_neg h]
  rfl
noncomputable def GtOk (C : Cx) (P : Params) : Prop := ∀ (a : LA) (tx : Str) (pos : Nat) (ln : Int), tx.length ≤ sizeLine → pos ≤ tx.length →
  ∀ B, okB gtShapes B = true → Sp C (.call (.ref 210) ⟨[.ref (a.pX + 281)], []⟩) B (lexV P a tx pos ln []) noP
      (Rets (.s (strOf (outer (restAt tx pos)).tok)) (lexV P a tx (pos + (outer (restAt tx pos)).cons) (ln + (outer (restAt tx pos)).nls) []))
noncomputable def Rd (tx : Str) : List (List Nat × Int) → Nat × Int → Nat × Int → Prop
  | [], q, q' => q' = q
  | e :: l, q, q' => (outer (restAt tx q.1)).tok = e.1 ∧ q.2 + (outer (restAt tx q.1)).nls = e.2 ∧ q.1 + (outer (restAt tx q.1)).cons ≤ tx.length ∧ Rd tx l (q.1 + (outer (restAt tx q.1)).cons, e.2) q'
noncomputable def toE (P : Params) : Expr := asgV (inFor (lawFor P) 8)
noncomputable def sEntry : Str := ⟨#[101, 110, 116, 114, 121]⟩
noncomputable def locE (l : List (VV × VV)) : Prop := l = [] ∨ ∃ v : Addr, l = [(.s sEntry, .r v)]
noncomputable def ToOk (C : Cx) (P : Params) (rest : List (List Nat × Int)) : Prop := ∀ (pI pA pCd n pD idx : Nat) (a : LA) (tx : Str) (q q' : Nat × Int) (ds td : List Addr) (E : List (List Nat × Int)) (loc : List (VV × VV)), ds.length = idx + rest.length → Rd tx rest q q' → tx.length ≤ sizeLine → q.1 ≤ tx.length → td.length + rest.length ≤ 900 → ds.length ≤ 900 → locE loc →
  ∀ B, okB [[1, 0, 3]] B = true → Sp C (.compLoop (toE P) 0 (.ref (pI + 281)) (.ref (pA + 281)) (compEnvF (toE P) [sLex] [(sLex, n + 286)] lawQ 278 pCd n)) B
    ([(pI + 281, ⟨.t "list_iterator", none, .fields [.r (pD + 281), .i (idx : Nat)]⟩), (pA + 281, ⟨.t "list", none, .seqV (td.map .ref)⟩), (pCd + 281, ⟨.t "dict", none, .dict loc⟩), (n + 286, ⟨.t "cell", none, .cell (some (.r (a.pX + 281)))⟩), (pD + 281, ⟨.t "list", none, .seqV (ds.map .ref)⟩)] ++ lexV P a tx q.1 q.2 []) (fun T => Objs tuO T td E)
    (fun T GT r H => ∃ (td' : List Addr) (loc' : List (VV × VV)) (N : Cells), Objs tuO (T ++ N) td' (E ++ rest) ∧ (loc' = loc ∧ rest = [] ∨ ∃ v : Addr, loc' = [(.s sEntry, .r v)]) ∧ Flows .next ([(pA + 281, ⟨.t "list", none, .seqV (td'.map .ref)⟩), (pCd + 281, ⟨.t "dict", none, .dict loc'⟩), (n + 286, ⟨.t "cell", none, .cell (some (.r (a.pX + 281)))⟩), (pD + 281, ⟨.t "list", none, .seqV (ds.map .ref)⟩)] ++ lexV P a tx q'.1 q'.2 []) (T ++ N) GT r H)
theorem tu_rc {A : Around} {s : Shared} {a b : Addr} {x : List Nat × Int} {o o' : Obj} (hu : A.units < cLine) (h1 : s.heap.get? a = some o) (h2 : s.heap.get? b = some o') (t1 : tuO x o) (t2 : tuO x o') : RcAt A s (.ref a) (.ref b) true := by
  run_tac sq0
  obtain ⟨k1, j1, e1, rfl⟩ := t1
  obtain ⟨k2, j2, e2, rfl⟩ := t2
  have := RcAt.tuples (A := A) (s := s) (e := fun _ => true) ⟨_, h1, rfl, e1, rfl⟩ ⟨_, h2, rfl, e2, rfl⟩ hu (fun j hj1 hj2 => by
    match j, hj1, hj2 with
    | 0, _, _ =>
      have := EqAt.str_str (A := A.in1) (s := s) (⟨⟨x.1⟩⟩ : Str) k1 ⟨⟨x.1⟩⟩ k2
      rw [beq_self_eq_true] at this
      exact this
    | 1, _, _ =>
      have := EqAt.int_int (A := A.in1) (s := s) x.2 j1 x.2 j2
      rw [beq_self_eq_true] at this
      exact this
    | j + 2, h, _ => exact absurd h (by simp))
  exact this
  run_tac sq
theorem tu_eq {A : Around} {s : Shared} {a b : Addr} {x : List Nat × Int} {o o' : Obj} (hu : A.units < cLine) (h1 : s.heap.get? a = some o) (h2 : s.heap.get? b = some o') (t1 : tuO x o) (t2 : tuO x o') : EqAt A s (.ref a) (.ref b) true := by
  by_cases hne : a = b
  · rw [hne]; exact EqAt.same _
  · exact EqAt.of_refs hne (tu_rc hu h1 h2 t1 t2)
theorem lb_units {B : List (Code × Pos)} (hB : okB [[1, 0, 3]] B = true) (c : Code) (hc : c.cUnits = 1) : (arOf ⟨c, none, none, B, none⟩).in1.in1.units < cLine := by
  run_tac sq0
  obtain ⟨S, hS, J, rfl⟩ := okB_inv hB rfl
  simp only [List.mem_cons, List.not_mem_nil, or_false] at hS
  subst hS
  have e : (arOf ⟨c, none, none, canon (skL [1, 0, 3]) J, none⟩).in1.in1.units = c.cUnits + unitsOf (canon (skL [1, 0, 3]) J) + 2 := rfl
  have e2 : unitsOf (canon (skL [1, 0, 3]) J) ≤ 100 := Nat.le_of_ble_eq_true rfl
  rw [e, hc, cLine]
  (run_tac om)
  run_tac sq
noncomputable def TdNe (C : Cx) : Prop := ∀ (p q : Nat) (td ds : List Addr) (E : List (List Nat × Int)), ∀ B, okB [[1, 0, 3]] B = true →
  Sp C (.builtin "list.__ne__" ⟨[.ref (p + 281), .ref (q + 281)], []⟩) B [(p + 281, ⟨.t "list", none, .seqV (td.map .ref)⟩), (q + 281, ⟨.t "list", none, .seqV (ds.map .ref)⟩)] (fun T => Objs tuO T td E ∧ Objs tuO T ds E)
    (Rets (.b false) [(p + 281, ⟨.t "list", none, .seqV (td.map .ref)⟩), (q + 281, ⟨.t "list", none, .seqV (ds.map .ref)⟩)])
theorem all_true (n : Nat) : ((List.range n).all fun _ => true) = true := by simp
theorem tdne_t {C : Cx} : TdNe C := by
  run_tac sq0
  intro p1 p2 td ds E B hB p T GT cells hc hP
  have hc0 := hc
  obtain ⟨hE1, hE2⟩ := hP
  obtain ⟨o1, cs1, rfl, eo1, hc⟩ := hc
  obtain ⟨o2, cs2, rfl, eo2, hc⟩ := hc
  obtain rfl : cs2 = T := hc
  obtain ⟨v1, J1, e1⟩ := unov_ofT eo1
  obtain ⟨v2, J2, e2⟩ := unov_ofT eo2
  have hu := Nat.lt_trans (Nat.lt_succ_self _) (lb_units hB (.builtin "list.__ne__" ⟨[.ref (p1 + 281), .ref (p2 + 281)], []⟩) rfl)
  have l1 := hE1.lens
  have l2 := hE2.lens
  refine ctr_meets PySem.F.entry_list_ne (list_neAt (p1 + 281) (p2 + 281) ⟨td.map .ref⟩ ⟨ds.map .ref⟩ v1.ep v2.ep none none #[] #[] (by simp; (run_tac om)) (fun _ => true)) rfl fun n t G h gs D hg => ?_
  have hh1 := D.own _ (.head _)
  have hh2 := D.own _ (.tail _ (.head _))
  dsimp only at hh1 hh2
  refine ⟨by rw [hh1, e1]; rfl, by rw [hh2, e2]; rfl, fun j h1 h2 => ?_, n, t, G, h, gs, _, rfl, D, hg, _, _, rfl, ?_, rfl, hc0⟩
  · have h1' : j < td.length := by simpa using h1
    have h2' : j < ds.length := by simpa using h2
    obtain ⟨a1, x1, o1, ha1, hx1, hm1, ht1⟩ := hE1.at (i := j) (by (run_tac om))
    obtain ⟨a2, x2, o2, ha2, hx2, hm2, ht2⟩ := hE2.at (i := j) (by (run_tac om))
    rw [hx1] at hx2
    obtain rfl := Option.some.inj hx2
    have g1 : (⟨td.map PySem.Value.ref⟩ : Array PySem.Value)[j] = .ref a1 := by
      have : td[j] = a1 := Option.some.inj (by rw [← ha1, List.getElem?_eq_getElem h1'])
      simp [this]
    have g2 : (⟨ds.map PySem.Value.ref⟩ : Array PySem.Value)[j] = .ref a2 := by
      have : ds[j] = a2 := Option.some.inj (by rw [← ha2, List.getElem?_eq_getElem h2'])
      simp [this]
    rw [g1, g2]
    exact tu_eq hu (D.own _ (.tail _ (.tail _ hm1))) (D.own _ (.tail _ (.tail _ hm2))) ht1 ht2
  · show VV.b _ = VV.b _
    rw [all_true]; rfl
  run_tac sq
end Mine
end -- N38
section -- N39
set_option backward.match.sparseCases false
set_option genSizeOf false
set_option genInjectivity false
open PySem PySem.W PySem.W.X PySem.Builtin PySem.Builtin.Str
namespace Mine
theorem flat_len (l : List (List Nat)) : ((l.map fun x => (⟨⟨x⟩⟩ : Str)).map (·.length)).sum = l.flatten.length := by
  rw [List.length_flatten, List.map_map]
  rfl
theorem Objs.up {α : Type} {P : α → Obj → Prop} {T T' : Cells} {as : List Addr} {ps : List α} (k : Nat) (h : Objs P T as ps) (e : dropC T' k = T) : Objs P T' as ps := h.sub fun _ hq => mem_dropC (e ▸ hq)
theorem ap_v {C : Cx} {P : Params} {rest : List Pc} (h : ApOk C P rest) (us : Vs) (hu : noPairs "tuple" us = true) (n l pP pI idx : Nat) (a : FB) (pcs : List Pc) (as0 as : List Addr) (ps : List (Str × Str)) (lines tb1 tb2 : List PySem.Value) (ls : List Str) (loc tl : List (VV × VV)) (h1 : a.sp = 32 ∨ a.sp = 120 ∨ a.sp = 92) (h2 : pcs.drop idx = rest) (h3 : lines.map vv = ls.map VV.s) (h4 : ∀ q ∈ pcs, q.1.length ≤ 400 ∧ q.2.length ≤ 400) (h5 : pcs.length ≤ 400) (h6 : smallP ps) (h7 : ps.length + rest.length ≤ 300) (h8 : ls.length + rest.length ≤ 300) (h9 : lenT tb1) (h10 : strT tb2) (h11 : fullT tl) (h12 : locAp tl loc) :
  ∀ B, okB [[1, 0, 3]] B = true → Sp C (apC P pI n) B (((pI + 281, ⟨.t "list_iterator", none, .fields [.r (pP + 281), .i (idx : Nat)]⟩) :: apFr n l pP a loc :: (pP + 281, ⟨.t "list", none, .seqV (as0.map .ref)⟩) :: a.vs as lines tb1 tb2) ++ us) (fun T => Objs pcO T as0 (pcs.map s2) ∧ Tups T as ps)
    (fun T GT r H => ∃ (as' : List Addr) (lines' tb1' tb2' : List PySem.Value) (loc' : List (VV × VV)) (N : Cells), lenT tb1' ∧ strT tb2' ∧ Tups (T ++ N) as' (appR a.W a.sp rest (ls, ps)).2 ∧ lines'.map vv = (appR a.W a.sp rest (ls, ps)).1.map VV.s ∧ locAp tl loc' ∧ (loc' = [] → loc = [] ∧ rest = []) ∧ Flows .next ((apFr n l pP a loc' :: (pP + 281, ⟨.t "list", none, .seqV (as0.map .ref)⟩) :: a.vs as' lines' tb1' tb2') ++ us) (T ++ N) GT r H) := by
  run_tac sq0
  intro B hB
  refine (Sp.along us (h n l pP pI idx a pcs as0 as ps lines tb1 tb2 ls loc tl h1 h2 h3 h4 h5 h6 h7 h8 h9 h10 h11 h12 B hB)).imp (fun T hT M hM => ⟨hT.1.sub hM.mem, hT.2.sub hM.mem⟩) ?_
  rintro T GT r H ⟨M, hM, as', lines', tb1', tb2', loc', N, g1, g2, g3, g4, g5, g6, g7⟩
  exact ⟨as', lines', tb1', tb2', loc', N, g1, g2, cv_tups hu hM g3, g4, g5, g6, g7.along hM⟩
  run_tac sq
noncomputable def CkS (C : Cx) (P : Params) : Prop := ∀ (pI pA pCd n pC : Nat) (ln : List Nat) (cs : List PySem.Value) (cv : List Int), cs.map vv = cv.map VV.i → ln.length ≤ 900 → ln ≠ [] →
  ∀ B, okB [[1, 0, 3]] B = true → Sp C (.compStart (ckE P) 0 (.ref (pI + 281)) (.ref (pA + 281)) (compEnvF (ckE P) [sCuts, sLine] [(sLine, n + 284), (sCuts, n + 285)] lawQ 278 pCd n)) B
    [(pI + 281, ⟨.t "range_iterator", none, .fields [.i ((0 : Nat) : Int), .i (ln.length : Nat), .i 1]⟩), (pA + 281, ⟨.t "list", none, .seqV []⟩), (pCd + 281, ⟨.t "dict", none, .dict []⟩), (n + 284, ⟨.t "cell", none, .cell (some (.s ⟨⟨ln⟩⟩))⟩), (n + 285, ⟨.t "cell", none, .cell (some (.r (pC + 281)))⟩), (pC + 281, ⟨.t "list", none, .seqV cs⟩)] noP
    (fun T GT r H => ∃ ys' loc', ys'.map vv = ((ckL cv 0 ln).map fun x => VV.s ⟨⟨x⟩⟩) ∧ (∃ v : Int, loc' = [(.s sK, .i v)]) ∧ Flows .next [(pA + 281, ⟨.t "list", none, .seqV ys'⟩), (pCd + 281, ⟨.t "dict", none, .dict loc'⟩), (n + 284, ⟨.t "cell", none, .cell (some (.s ⟨⟨ln⟩⟩))⟩), (n + 285, ⟨.t "cell", none, .cell (some (.r (pC + 281)))⟩), (pC + 281, ⟨.t "list", none, .seqV cs⟩)] T GT r H)
noncomputable def ToS (C : Cx) (P : Params) : Prop := ∀ (pI pA pCd n pD : Nat) (a : LA) (tx : Str) (q q' : Nat × Int) (ds : List Addr) (rest : List (List Nat × Int)), ds.length = rest.length → Rd tx rest q q' → tx.length ≤ sizeLine → q.1 ≤ tx.length → ds.length ≤ 900 → rest ≠ [] →
  ∀ B, okB [[1, 0, 3]] B = true → Sp C (.compStart (toE P) 0 (.ref (pI + 281)) (.ref (pA + 281)) (compEnvF (toE P) [sLex] [(sLex, n + 286)] lawQ 278 pCd n)) B
    ([(pI + 281, ⟨.t "list_iterator", none, .fields [.r (pD + 281), .i ((0 : Nat) : Int)]⟩), (pA + 281, ⟨.t "list", none, .seqV []⟩), (pCd + 281, ⟨.t "dict", none, .dict []⟩), (n + 286, ⟨.t "cell", none, .cell (some (.r (a.pX + 281)))⟩), (pD + 281, ⟨.t "list", none, .seqV (ds.map .ref)⟩)] ++ lexV P a tx q.1 q.2 []) noP
    (fun T GT r H => ∃ (td' : List Addr) (loc' : List (VV × VV)) (N : Cells), Objs tuO (T ++ N) td' rest ∧ (∃ v : Addr, loc' = [(.s sEntry, .r v)]) ∧ Flows .next ([(pA + 281, ⟨.t "list", none, .seqV (td'.map .ref)⟩), (pCd + 281, ⟨.t "dict", none, .dict loc'⟩), (n + 286, ⟨.t "cell", none, .cell (some (.r (a.pX + 281)))⟩), (pD + 281, ⟨.t "list", none, .seqV (ds.map .ref)⟩)] ++ lexV P a tx q'.1 q'.2 []) (T ++ N) GT r H)
theorem to_v {C : Cx} {P : Params} (h : ToS C P) (us : Vs) (hu : noPairs "tuple" us = true) (pI pA pCd n pD : Nat) (a : LA) (tx : Str) (q q' : Nat × Int) (ds : List Addr) (rest : List (List Nat × Int)) (h1 : ds.length = rest.length) (h2 : Rd tx rest q q') (h3 : tx.length ≤ sizeLine) (h4 : q.1 ≤ tx.length) (h5 : ds.length ≤ 900) (h6 : rest ≠ []) :
  ∀ B, okB [[1, 0, 3]] B = true → Sp C (.compStart (toE P) 0 (.ref (pI + 281)) (.ref (pA + 281)) (compEnvF (toE P) [sLex] [(sLex, n + 286)] lawQ 278 pCd n)) B
    (([(pI + 281, ⟨.t "list_iterator", none, .fields [.r (pD + 281), .i ((0 : Nat) : Int)]⟩), (pA + 281, ⟨.t "list", none, .seqV []⟩), (pCd + 281, ⟨.t "dict", none, .dict []⟩), (n + 286, ⟨.t "cell", none, .cell (some (.r (a.pX + 281)))⟩), (pD + 281, ⟨.t "list", none, .seqV (ds.map .ref)⟩)] ++ lexV P a tx q.1 q.2 []) ++ us) noP
    (fun T GT r H => ∃ (td' : List Addr) (loc' : List (VV × VV)) (N : Cells), Objs tuO (T ++ N) td' rest ∧ (∃ v : Addr, loc' = [(.s sEntry, .r v)]) ∧ Flows .next (([(pA + 281, ⟨.t "list", none, .seqV (td'.map .ref)⟩), (pCd + 281, ⟨.t "dict", none, .dict loc'⟩), (n + 286, ⟨.t "cell", none, .cell (some (.r (a.pX + 281)))⟩), (pD + 281, ⟨.t "list", none, .seqV (ds.map .ref)⟩)] ++ lexV P a tx q'.1 q'.2 []) ++ us) (T ++ N) GT r H) := by
  intro B hB
  refine (Sp.along us (h pI pA pCd n pD a tx q q' ds rest h1 h2 h3 h4 h5 h6 B hB)).imp (fun _ _ _ _ => trivial) ?_
  rintro T GT r H ⟨M, hM, td', loc', N, g1, g2, g3⟩
  exact ⟨td', loc', N, cv_objs tuO_pair hu hM g1, g2, g3.along hM⟩
structure LawT (W : Int) (sp : Nat) (ln : List Nat) (wl : List (List Nat × Int)) : Prop where
  sm : smallP (appR W sp (piecesOf ln) ([], [])).2
  l1 : (appR W sp (piecesOf ln) ([], [])).1.length ≤ 300
  l2 : (appR W sp (piecesOf ln) ([], [])).2.length ≤ 300
  last : ∃ ps x y, (appR W sp (piecesOf ln) ([], [])).2 = ps ++ [(x, y)] ∧ 1 ≤ y.length
  nw : nonWs (allS (appR W sp (piecesOf ln) ([], [])).2)
  sz : (((appR W sp (piecesOf ln) ([], [])).1 ++ [allS (appR W sp (piecesOf ln) ([], [])).2]).map (·.length)).sum + ((appR W sp (piecesOf ln) ([], [])).1 ++ [allS (appR W sp (piecesOf ln) ([], [])).2]).length * (⟨#[10]⟩ : Str).length ≤ sizeLine
  tx : glued ⟨#[10]⟩ ((appR W sp (piecesOf ln) ([], [])).1 ++ [allS (appR W sp (piecesOf ln) ([], [])).2]) = ⟨⟨(ckL (cutsOf W sp (piecesOf ln)) 0 ln).flatten⟩⟩
  len : (ckL (cutsOf W sp (piecesOf ln)) 0 ln).flatten.length ≤ 500
  cl : (cutsOf W sp (piecesOf ln)).length ≤ 500
  dl : (dueRun (cutsOf W sp (piecesOf ln)) wl ([], 0)).1.length ≤ 500
  dn : (dueRun (cutsOf W sp (piecesOf ln)) wl ([], 0)).1 ≠ []
  rd : ∃ q, Rd ⟨⟨(ckL (cutsOf W sp (piecesOf ln)) 0 ln).flatten⟩⟩ (dueRun (cutsOf W sp (piecesOf ln)) wl ([], 0)).1 (0, 1) q ∧ q.1 ≤ (ckL (cutsOf W sp (piecesOf ln)) 0 ln).flatten.length ∧ (outer (restAt ⟨⟨(ckL (cutsOf W sp (piecesOf ln)) 0 ln).flatten⟩⟩ q.1)).tok = [] ∧ q.1 + (outer (restAt ⟨⟨(ckL (cutsOf W sp (piecesOf ln)) 0 ln).flatten⟩⟩ q.1)).cons = (ckL (cutsOf W sp (piecesOf ln)) 0 ln).flatten.length
noncomputable def Lx1Ok (C : Cx) (P : Params) : Prop := ∀ (tx : Str) (kt : Tok) (pL : Nat), ∀ B, okB [[1, 0, 3]] B = true → Sp C (.call (.ref 274) ⟨[.str tx kt, .ref (pL + 281)], []⟩) B [(269, ⟨.none, none, .exact (.fields ⟨[]⟩)⟩), (pL + 281, ⟨.t "list", none, .seq [.i 0]⟩)] noP (lexQ P tx pL)
noncomputable def Lx2Ok (C : Cx) (P : Params) : Prop := ∀ (tx : Str) (kt : Tok) (pL : Nat) (c : CS), ∀ B, okB [[1, 0, 3]] B = true → Sp C (.call (.ref 274) ⟨[.str tx kt, .ref (pL + 281)], []⟩) B (codeX c ++ [(pL + 281, ⟨.t "list", none, .seq [.i 0]⟩)]) noP (lexQ2 P tx pL c)
structure LwS where
  n : Nat
  l : Nat
  pW : Nat
  pM : Nat
  pP : Nat
  pI : Nat
  pT : Nat
  W : Int
  as0 : List Addr
  ws : List PySem.Value
  ms : List PySem.Value
  vs : List PySem.Value
  ve : Nat
structure LG where
  sp : Nat
  m : Nat
  b : Str
  p : Str
  tx : Str
  r1 : Nat
  r2 : Nat
  r3 : Nat
  pC : Nat
  pX : Nat
  c : CS
noncomputable def LG.loc (g : LG) : List (VV × VV) := [(.s sSplitting, .s ⟨#[g.sp]⟩), (.s sMaker, .r (g.m + 281)), (.s sBlanks, .s g.b), (.s sPart, .s g.p), (.s sText, .s g.tx), (.s sDue, .r (g.r1 + 281)), (.s sAt, .r (g.r2 + 281)), (.s sTold, .r (g.r3 + 281))]
noncomputable def locO : Option LG → List (VV × VV)
  | none => []
  | some g => g.loc
noncomputable def cuO : Option LG → Option VV
  | none => none
  | some g => some (.r (g.pC + 281))
noncomputable def lxO : Option LG → Option VV
  | none => none
  | some g => some (.r (g.pX + 281))
noncomputable def tabO : Option LG → Vs
  | none => [(269, ⟨.none, none, .exact (.fields ⟨[]⟩)⟩)]
  | some g => codeX g.c
noncomputable def lwFr (S : LwS) (loc : List (VV × VV)) : Addr × OV := (S.n + 281, ⟨.t "frame", none, .dict ([(.s sScript, .r 280), (.s sNumbers, .r (S.l + 281)), (.s sPieces, .r (S.pP + 281)), (.s sWidth, .i S.W)] ++ loc)⟩)
noncomputable def lwA (S : LwS) (ln : List Nat) (j : Nat) (cu lx : Option VV) : Vs :=
  [(S.pI + 281, ⟨.t "tuple_iterator", none, .fields [.r (S.pT + 281), .i (j : Nat)]⟩), (S.pT + 281, ⟨.t "tuple", none, .seq [.s ⟨#[32]⟩, .s ⟨#[120]⟩, .s ⟨#[92]⟩]⟩),
   (S.n + 282, ⟨.t "cell", none, .cell (some (.r (S.pW + 281)))⟩), (S.n + 283, ⟨.t "cell", none, .cell (some (.r (S.pM + 281)))⟩), (S.n + 284, ⟨.t "cell", none, .cell (some (.s ⟨⟨ln⟩⟩))⟩), (S.n + 285, ⟨.t "cell", none, .cell cu⟩), (S.n + 286, ⟨.t "cell", none, .cell lx⟩),
   (S.pW + 281, ⟨.t "list", none, .seqV S.ws⟩), (S.pM + 281, ⟨.t "list", none, .seqV S.ms⟩), (280, ⟨.t "list", none, .exact (.seq ⟨S.vs⟩ S.ve)⟩)]
noncomputable def lwB (S : LwS) (ln : List Nat) (j : Nat) (cu lx : Option VV) (tb1 tb2 : List PySem.Value) : Vs :=
  [(S.pI + 281, ⟨.t "tuple_iterator", none, .fields [.r (S.pT + 281), .i (j : Nat)]⟩), (S.pT + 281, ⟨.t "tuple", none, .seq [.s ⟨#[32]⟩, .s ⟨#[120]⟩, .s ⟨#[92]⟩]⟩),
   (S.n + 282, ⟨.t "cell", none, .cell (some (.r (S.pW + 281)))⟩), (S.n + 283, ⟨.t "cell", none, .cell (some (.r (S.pM + 281)))⟩), (S.n + 284, ⟨.t "cell", none, .cell (some (.s ⟨⟨ln⟩⟩))⟩), (S.n + 285, ⟨.t "cell", none, .cell cu⟩), (S.n + 286, ⟨.t "cell", none, .cell lx⟩),
   (280, ⟨.t "list", none, .exact (.seq ⟨S.vs⟩ S.ve)⟩), (S.pP + 281, ⟨.t "list", none, .seqV (S.as0.map .ref)⟩), (140, ⟨.none, none, .exact (.fields ⟨tb1⟩)⟩), (147, ⟨.none, none, .exact (.fields ⟨tb2⟩)⟩)]
noncomputable def lwD (S : LwS) (ln : List Nat) (j : Nat) (cu : Option VV) (tb1 tb2 : List PySem.Value) : Vs :=
  [(S.pI + 281, ⟨.t "tuple_iterator", none, .fields [.r (S.pT + 281), .i (j : Nat)]⟩), (S.pT + 281, ⟨.t "tuple", none, .seq [.s ⟨#[32]⟩, .s ⟨#[120]⟩, .s ⟨#[92]⟩]⟩),
   (S.n + 282, ⟨.t "cell", none, .cell (some (.r (S.pW + 281)))⟩), (S.n + 283, ⟨.t "cell", none, .cell (some (.r (S.pM + 281)))⟩), (S.n + 284, ⟨.t "cell", none, .cell (some (.s ⟨⟨ln⟩⟩))⟩), (S.n + 285, ⟨.t "cell", none, .cell cu⟩),
   (280, ⟨.t "list", none, .exact (.seq ⟨S.vs⟩ S.ve)⟩), (S.pP + 281, ⟨.t "list", none, .seqV (S.as0.map .ref)⟩), (140, ⟨.none, none, .exact (.fields ⟨tb1⟩)⟩), (147, ⟨.none, none, .exact (.fields ⟨tb2⟩)⟩), (S.pW + 281, ⟨.t "list", none, .seqV S.ws⟩), (S.pM + 281, ⟨.t "list", none, .seqV S.ms⟩)]
noncomputable def lwV (S : LwS) (ln : List Nat) (j : Nat) (tb1 tb2 : List PySem.Value) (g : Option LG) : Vs :=
  lwA S ln j (cuO g) (lxO g) ++ [lwFr S (locO g), (S.pP + 281, ⟨.t "list", none, .seqV (S.as0.map .ref)⟩), (140, ⟨.none, none, .exact (.fields ⟨tb1⟩)⟩), (147, ⟨.none, none, .exact (.fields ⟨tb2⟩)⟩)] ++ tabO g
noncomputable def spAt (j : Nat) : Nat := match j with
  | 0 => 32
  | 1 => 120
  | _ => 92
noncomputable def TupNx (C : Cx) : Prop := ∀ (pI pT j sp : Nat), ([32, 120, 92] : List Nat)[j]? = some sp → ∀ B, okB anySh B = true → Sp C (.builtin "tuple_iterator.__next__" ⟨[.ref (pI + 281)], []⟩) B
  [(pI + 281, ⟨.t "tuple_iterator", none, .fields [.r (pT + 281), .i (j : Nat)]⟩), (pT + 281, ⟨.t "tuple", none, .seq [.s ⟨#[32]⟩, .s ⟨#[120]⟩, .s ⟨#[92]⟩]⟩)] noP
  (Rets (.s ⟨#[sp]⟩) [(pI + 281, ⟨.t "tuple_iterator", none, .fields [.r (pT + 281), .i ((j + 1 : Nat) : Int)]⟩), (pT + 281, ⟨.t "tuple", none, .seq [.s ⟨#[32]⟩, .s ⟨#[120]⟩, .s ⟨#[92]⟩]⟩)])
noncomputable def LpOk (C : Cx) (P : Params) (wl : List (List Nat × Int)) (ln : List Nat) (W : Int) (j : Nat) (k : Bool) : Prop := ∀ (S : LwS) (tb1 tb2 : List PySem.Value) (g : Option LG), S.W = W → g.isSome = k → S.ws.map vv = wl.map strL → S.ms.map vv = wl.map (fun q => VV.i q.2) → lenT tb1 → strT tb2 →
  ∀ B, okB [[0, 3]] B = true → Sp C (lawC P S.pI S.n) B (lwV S ln j tb1 tb2 g) (fun T => Objs pcO T S.as0 ((piecesOf ln).map s2))
    (fun T GT r H => ∃ (tb1' tb2' : List PySem.Value) (g' : LG) (N : Cells), lenT tb1' ∧ strT tb2' ∧ Flows .next (lwV S ln 3 tb1' tb2' (some g')).tail.tail (T ++ N) GT r H)
end Mine
end -- N39
section -- N40
set_option backward.match.sparseCases false
set_option genSizeOf false
set_option genInjectivity false
open PySem PySem.W PySem.W.X PySem.Builtin PySem.Builtin.Str
namespace Mine
noncomputable def lawV (vs : List PySem.Value) (ve : Nat) (tb1 tb2 : List PySem.Value) (c : CS) : Vs := [(280, ⟨.t "list", none, .exact (.seq ⟨vs⟩ ve)⟩), (140, ⟨.none, none, .exact (.fields ⟨tb1⟩)⟩), (147, ⟨.none, none, .exact (.fields ⟨tb2⟩)⟩)] ++ codeX c
noncomputable def lawQ2 (vs : List PySem.Value) (ve : Nat) (T : Cells) (GT : GL) (r : Result) (H : HS) : Prop := ∃ tb1 tb2 c N, lenT tb1 ∧ strT tb2 ∧ Rets (.b true) (lawV vs ve tb1 tb2 c) (T ++ N) GT r H
noncomputable def LawOk (C : Cx) (vs : List PySem.Value) (ve : Nat) : Prop := ∀ B, okB [[3]] B = true → Sp C (.call (.ref 279) ⟨[.ref 280], []⟩) B [(280, ⟨.t "list", none, .exact (.seq ⟨vs⟩ ve)⟩), (140, ⟨.none, none, .exact (.fields ⟨[]⟩)⟩), (147, ⟨.none, none, .exact (.fields ⟨[]⟩)⟩), (269, ⟨.none, none, .exact (.fields ⟨[]⟩)⟩)] noP (lawQ2 vs ve)
end Mine
end -- N40
section
open PySem PySem.W PySem.W.X
namespace Mine
variable {w : World} {b1 b2 : Bool} {h₀ : Heap} {d : Drawn} {os : OsState} {hk : KT.Holds h₀ 1 0 (kt1 (W2 w b1 b2).params)} {hN : h₀.objs.size ≤ 281}
set_option maxHeartbeats 0 in
theorem read_t : ReadOk (cx w b1 b2 h₀ d os hk hN) (W2 w b1 b2).params := by
  run_tac sq0
  intro a tx pos ln pb hl
  refine sp_of fun p T GT J hP n t G => ?_
  intro s
  (run_tac gR 96 528899314969891362467299506470970569962969310204420905088455166171228330802833829134336)
  (refine gp [0, 1, 2, 3, 4, 5, 6, 7, 8, 9, 10, 11, 12] 13 [] 0 (by kernel_rfl) ?_; intro ns2 ts2 Gs2 s2; refine kb (by kernel_rfl) (fun _ _ => getslice_ok (tx := tx) (pos := pos) (sl := n + 283) (by kernel_rfl) 0 (by kernel_rfl) hl) ?_)
  rintro r ⟨k, x, rfl, hx⟩ n t G s
  rcases sign_cases hx with ⟨rfl, hn⟩ | ⟨c, rfl, hs⟩
  · (run_tac gR 75 1051051210829141969751848073143118057447552)
    (refine gp [3, 4, 5, 6, 7, 8, 9, 10, 11, 12] 13 [] 0 (by kernel_rfl) ?_; intro ns4 ts4 Gs4 s4; refine ke (by kernel_rfl) ?_)
    exact readQ_none hn (rets 10 (by kernel_rfl))
  · (run_tac gR 71 5703779648019009992361279112726111854720)
    refine gs (([c] : List Nat) == [10]) (by kernel_rfl) (fun hb => ?_) (fun hb => ?_)
    · obtain rfl : c = 10 := by simpa using hb
      intro s
      (run_tac gR 54 300466403568685695581052935669234424715982099992195105219)
      (refine gp [3, 4, 5, 6, 7, 8, 9, 10, 11, 12] 13 [] 0 (by kernel_rfl) ?_; intro ns7 ts7 Gs7 s7; refine ke (by kernel_rfl) ?_)
      exact readQ_some hs (rets 10 (by kernel_rfl))
    · have hc : c ≠ 10 := by simpa using hb
      have e : ln = ln + nl c := by unfold nl; simp [hc]
      intro s
      (run_tac gR 4 3)
      (refine gp [3, 4, 5, 6, 7, 8, 9, 10, 11, 12] 13 [] 0 (by kernel_rfl) ?_; intro ns9 ts9 Gs9 s9; refine ke (by kernel_rfl) ?_)
      refine readQ_some hs ?_
      rw [← e]
      exact (rets 10 (by kernel_rfl))
  run_tac sq
set_option maxHeartbeats 0 in
theorem inQ_step {a : LA} {pF pI pM : Nat} {tx : Str} {pb : List PySem.Value} (hl : tx.length ≤ sizeLine) (hR : ReadOk (cx w b1 b2 h₀ d os hk hN) (W2 w b1 b2).params) (fuel : Nat)
    (IH : InOk (cx w b1 b2 h₀ d os hk hN) ⟨(W2 w b1 b2).params, a, pF, pI, pM, tx, pb⟩ (inQ (W2 w b1 b2).params) (fun c => c == 34) fuel) :
    InOk (cx w b1 b2 h₀ d os hk hN) ⟨(W2 w b1 b2).params, a, pF, pI, pM, tx, pb⟩ (inQ (W2 w b1 b2).params) (fun c => c == 34) (fuel + 1) := by
  run_tac sq0
  intro pos ln tok ch hf hp ht
  dsimp only at hf hp
  refine sp_of fun p T GT J hP n t G => ?_
  intro s
  (
    (run_tac gR 11 206209294466)
    (refine gp [3, 4, 5, 6, 7, 8, 9, 10, 11, 12, 0, 1, 2] 13 [] 0 (by kernel_rfl) ?_; intro ns2 ts2 Gs2 s2; refine ko 10 (hR a tx pos ln pb hl) (by kernel_rfl) ?_ ?_)
    · trivial
    intro r H' h
    rcases readQ_open h with ⟨hn, k, J, rfl, rfl⟩ | ⟨c, hs, k, J, rfl, rfl⟩ <;> intro n t G s
    · (run_tac gR 3 780)
      (run_tac Mine.gxT 0)
      intro x _
      cases x <;> intro s
      · (run_tac gR 20 1372525600719295233)
        (refine gp [12, 13, 14, 2, 3, 4, 5, 6, 7, 8, 9, 10, 11] 15 [] 0 (by kernel_rfl) ?_; intro ns6 ts6 Gs6 s6; refine ke (by kernel_rfl) ?_)
        exact InP.end0 (I := ⟨_, a, pF, pI, pM, tx, pb⟩) (ch := ch) hn (flows 13 (by kernel_rfl))
      · (run_tac gR 17 21445712511238988)
        (refine gp [12, 13, 14, 2, 3, 4, 5, 6, 7, 8, 9, 10, 11] 15 [] 0 (by kernel_rfl) ?_; intro ns8 ts8 Gs8 s8; refine ke (by kernel_rfl) ?_)
        exact InP.end0 (I := ⟨_, a, pF, pI, pM, tx, pb⟩) (ch := ch) hn (flows 13 (by kernel_rfl))
    · have hlt := at_lt hs
      (run_tac gR 3 780)
      (run_tac Mine.gxT 0)
      intro x _
      cases x with
      | isTrue h => exact absurd h (by simp [unvvs, unvv])
      | isFalse h =>
        intro s
        (run_tac gR 20 1261219841)
        refine gs (([c] : List Nat) == [34]) (by kernel_rfl) (fun hb => ?_) (fun hb => ?_)
        · obtain rfl : c = 34 := by simpa using hb
          intro s
          (run_tac gR 4 11)
          (refine gp [10, 11, 12, 0, 1, 2, 3, 4, 5, 6, 7, 8, 9] 13 [] 0 (by kernel_rfl) ?_; intro ns12 ts12 Gs12 s12; refine ke (by kernel_rfl) ?_)
          exact InP.stop1 (I := ⟨_, a, pF, pI, pM, tx, pb⟩) (ch := ⟨#[34]⟩) hs rfl (rets 13 (by kernel_rfl))
        · have hc : c ≠ 34 := by simpa using hb
          intro s
          (run_tac gR 9 75)
          refine gs (([c] : List Nat) == [92]) (by kernel_rfl) (fun hb => ?_) (fun hb => ?_)
          · obtain rfl : c = 92 := by simpa using hb
            intro s
            (run_tac gR 23 1315311291812774140413214987)
            (refine gp [0, 1, 2, 3, 4, 5, 6, 7, 8, 9, 10, 11, 12] 13 [] 0 (by kernel_rfl) ?_; intro ns15 ts15 Gs15 s15; refine kc 10 (hR a tx (pos + 1) (ln + nl 92) pb hl) (by kernel_rfl) ?_ ?_)
            · trivial
            intro r H' h
            rcases readQ_open h with ⟨hn, k, J, rfl, rfl⟩ | ⟨c, hs2, k, J, rfl, rfl⟩ <;> intro n t G s
            · (run_tac gR 15 187478720)
              (refine gp [0, 1, 2, 3, 4, 5, 6, 7, 8, 9, 10, 11, 12] 13 [] 0 (by kernel_rfl) ?_; intro ns18 ts18 Gs18 s18; refine kb (by kernel_rfl) (fun _ _ => stradd_ok (x := tok) (y := ⟨#[]⟩) (by kernel_rfl) (by rw [add_nil]; (run_tac om))) ?_)
              rintro _ ⟨z, k2, rfl, hz2⟩ n t G s
              rw [add_nil] at hz2
              obtain rfl := hz2.symm
              (run_tac gR 8 45760)
              (refine gp [10, 11, 12, 0, 1, 2, 3, 4, 5, 6, 7, 8, 9] 13 [] 0 (by kernel_rfl) ?_; intro ns20 ts20 Gs20 s20; refine ka 13 (IH (pos + 1) (ln + nl 92) tok ⟨#[]⟩ (by dsimp only; (run_tac om)) (by dsimp only; (run_tac om)) (by (run_tac om))) (by kernel_rfl) ?_ ?_)
              · trivial
              · exact fun r H' h => InP.endEsc (I := ⟨_, a, pF, pI, pM, tx, pb⟩) hs rfl hn h
            · have hlt2 := at_lt hs2
              (run_tac gR 15 187478720)
              (refine gp [0, 1, 2, 3, 4, 5, 6, 7, 8, 9, 10, 11, 12] 13 [] 0 (by kernel_rfl) ?_; intro ns23 ts23 Gs23 s23; refine kb (by kernel_rfl) (fun _ _ => stradd_ok (x := tok) (y := ⟨#[c]⟩) (by kernel_rfl) (add_len hl ht hlt).2) ?_)
              rintro _ ⟨z, k2, rfl, hz2⟩ n t G s
              obtain rfl := hz2
              (run_tac gR 8 45760)
              (refine gp [10, 11, 12, 0, 1, 2, 3, 4, 5, 6, 7, 8, 9] 13 [] 0 (by kernel_rfl) ?_; intro ns25 ts25 Gs25 s25; refine ka 13 (IH (pos + 1 + 1) (ln + nl 92 + nl c) (tok ++ ⟨#[c]⟩) ⟨#[c]⟩ (by dsimp only; (run_tac om)) (by dsimp only; (run_tac om)) (by have := (add_len (c := c) hl ht hlt).1; (run_tac om))) (by kernel_rfl) ?_ ?_)
              · trivial
              · exact fun r H' h => InP.step2 (I := ⟨_, a, pF, pI, pM, tx, pb⟩) hs hs2 rfl h
          · have hc2 : c ≠ 92 := by simpa using hb
            intro s
            (run_tac gR 8 715)
            (refine gp [0, 1, 2, 3, 4, 5, 6, 7, 8, 9, 10, 11, 12] 13 [] 0 (by kernel_rfl) ?_; intro ns28 ts28 Gs28 s28; refine kb (by kernel_rfl) (fun _ _ => stradd_ok (x := tok) (y := ⟨#[c]⟩) (by kernel_rfl) (add_len hl ht hlt).2) ?_)
            rintro _ ⟨z, k2, rfl, hz2⟩ n t G s
            obtain rfl := hz2
            (run_tac gR 8 45760)
            (refine gp [10, 11, 12, 0, 1, 2, 3, 4, 5, 6, 7, 8, 9] 13 [] 0 (by kernel_rfl) ?_; intro ns30 ts30 Gs30 s30; refine ka 13 (IH (pos + 1) (ln + nl c) (tok ++ ⟨#[c]⟩) ⟨#[c]⟩ (by dsimp only; (run_tac om)) (by dsimp only; (run_tac om)) (by have := (add_len (c := c) hl ht hlt).1; (run_tac om))) (by kernel_rfl) ?_ ?_)
            · trivial
            · exact fun r H' h => InP.step1 (I := ⟨_, a, pF, pI, pM, tx, pb⟩) hs (by simpa using hc) hc2 h)
  run_tac sq
set_option maxHeartbeats 0 in
theorem inU_step {a : LA} {pF pI pM : Nat} {tx : Str} {pb : List PySem.Value} (hl : tx.length ≤ sizeLine) (hR : ReadOk (cx w b1 b2 h₀ d os hk hN) (W2 w b1 b2).params) (fuel : Nat)
    (IH : InOk (cx w b1 b2 h₀ d os hk hN) ⟨(W2 w b1 b2).params, a, pF, pI, pM, tx, pb⟩ (inU (W2 w b1 b2).params) isWs fuel) :
    InOk (cx w b1 b2 h₀ d os hk hN) ⟨(W2 w b1 b2).params, a, pF, pI, pM, tx, pb⟩ (inU (W2 w b1 b2).params) isWs (fuel + 1) := by
  run_tac sq0
  intro pos ln tok ch hf hp ht
  dsimp only at hf hp
  refine sp_of fun p T GT J hP n t G => ?_
  intro s
  (
    (run_tac gR 11 206209294466)
    (refine gp [3, 4, 5, 6, 7, 8, 9, 10, 11, 12, 0, 1, 2] 13 [] 0 (by kernel_rfl) ?_; intro ns2 ts2 Gs2 s2; refine ko 10 (hR a tx pos ln pb hl) (by kernel_rfl) ?_ ?_)
    · trivial
    intro r H' h
    rcases readQ_open h with ⟨hn, k, J, rfl, rfl⟩ | ⟨c, hs, k, J, rfl, rfl⟩ <;> intro n t G s
    · (run_tac gR 3 780)
      (run_tac Mine.gxT 0)
      intro x _
      cases x <;> intro s
      · (run_tac gR 20 1372525600719295233)
        (refine gp [12, 13, 14, 2, 3, 4, 5, 6, 7, 8, 9, 10, 11] 15 [] 0 (by kernel_rfl) ?_; intro ns6 ts6 Gs6 s6; refine ke (by kernel_rfl) ?_)
        exact InP.end0 (I := ⟨_, a, pF, pI, pM, tx, pb⟩) (ch := ch) hn (flows 13 (by kernel_rfl))
      · (run_tac gR 17 21445712511238988)
        (refine gp [12, 13, 14, 2, 3, 4, 5, 6, 7, 8, 9, 10, 11] 15 [] 0 (by kernel_rfl) ?_; intro ns8 ts8 Gs8 s8; refine ke (by kernel_rfl) ?_)
        exact InP.end0 (I := ⟨_, a, pF, pI, pM, tx, pb⟩) (ch := ch) hn (flows 13 (by kernel_rfl))
    · have hlt := at_lt hs
      (run_tac gR 3 780)
      (run_tac Mine.gxT 0)
      intro x _
      cases x with
      | isTrue h => exact absurd h (by simp [unvvs, unvv])
      | isFalse h =>
        intro s
        (run_tac gR 36 5075631532327126149658894446593)
        (refine gp [0, 1, 2, 3, 4, 5, 6, 7, 8, 9, 10, 11, 12] 13 [] 0 (by kernel_rfl) ?_; intro ns11 ts11 Gs11 s11; refine kb (by kernel_rfl) (fun _ _ => strin_ok (x := sWs) (y := ⟨#[c]⟩) (by kernel_rfl)) ?_)
        rintro _ ⟨b, rfl, hb⟩
        rw [in_ws] at hb
        have hb0 := hb
        cases b
        rotate_left
        · intro n t G s
          (run_tac gR 4 11)
          (refine gp [10, 11, 12, 0, 1, 2, 3, 4, 5, 6, 7, 8, 9] 13 [] 0 (by kernel_rfl) ?_; intro ns13 ts13 Gs13 s13; refine ke (by kernel_rfl) ?_)
          exact InP.stop1 (I := ⟨_, a, pF, pI, pM, tx, pb⟩) (ch := ⟨#[c]⟩) hs hb.symm (rets 13 (by kernel_rfl))
        · intro n t G s
          (run_tac gR 9 75)
          refine gs (([c] : List Nat) == [92]) (by kernel_rfl) (fun hb => ?_) (fun hb => ?_)
          · obtain rfl : c = 92 := by simpa using hb
            intro s
            (run_tac gR 23 1315311291812774140413214987)
            (refine gp [0, 1, 2, 3, 4, 5, 6, 7, 8, 9, 10, 11, 12] 13 [] 0 (by kernel_rfl) ?_; intro ns16 ts16 Gs16 s16; refine kc 10 (hR a tx (pos + 1) (ln + nl 92) pb hl) (by kernel_rfl) ?_ ?_)
            · trivial
            intro r H' h
            rcases readQ_open h with ⟨hn, k, J, rfl, rfl⟩ | ⟨c, hs2, k, J, rfl, rfl⟩ <;> intro n t G s
            · (run_tac gR 15 187478720)
              (refine gp [0, 1, 2, 3, 4, 5, 6, 7, 8, 9, 10, 11, 12] 13 [] 0 (by kernel_rfl) ?_; intro ns19 ts19 Gs19 s19; refine kb (by kernel_rfl) (fun _ _ => stradd_ok (x := tok) (y := ⟨#[]⟩) (by kernel_rfl) (by rw [add_nil]; (run_tac om))) ?_)
              rintro _ ⟨z, k2, rfl, hz2⟩ n t G s
              rw [add_nil] at hz2
              obtain rfl := hz2.symm
              (run_tac gR 8 45760)
              (refine gp [10, 11, 12, 0, 1, 2, 3, 4, 5, 6, 7, 8, 9] 13 [] 0 (by kernel_rfl) ?_; intro ns21 ts21 Gs21 s21; refine ka 13 (IH (pos + 1) (ln + nl 92) tok ⟨#[]⟩ (by dsimp only; (run_tac om)) (by dsimp only; (run_tac om)) (by (run_tac om))) (by kernel_rfl) ?_ ?_)
              · trivial
              · exact fun r H' h => InP.endEsc (I := ⟨_, a, pF, pI, pM, tx, pb⟩) hs rfl hn h
            · have hlt2 := at_lt hs2
              (run_tac gR 15 187478720)
              (refine gp [0, 1, 2, 3, 4, 5, 6, 7, 8, 9, 10, 11, 12] 13 [] 0 (by kernel_rfl) ?_; intro ns24 ts24 Gs24 s24; refine kb (by kernel_rfl) (fun _ _ => stradd_ok (x := tok) (y := ⟨#[c]⟩) (by kernel_rfl) (add_len hl ht hlt).2) ?_)
              rintro _ ⟨z, k2, rfl, hz2⟩ n t G s
              obtain rfl := hz2
              (run_tac gR 8 45760)
              (refine gp [10, 11, 12, 0, 1, 2, 3, 4, 5, 6, 7, 8, 9] 13 [] 0 (by kernel_rfl) ?_; intro ns26 ts26 Gs26 s26; refine ka 13 (IH (pos + 1 + 1) (ln + nl 92 + nl c) (tok ++ ⟨#[c]⟩) ⟨#[c]⟩ (by dsimp only; (run_tac om)) (by dsimp only; (run_tac om)) (by have := (add_len (c := c) hl ht hlt).1; (run_tac om))) (by kernel_rfl) ?_ ?_)
              · trivial
              · exact fun r H' h => InP.step2 (I := ⟨_, a, pF, pI, pM, tx, pb⟩) hs hs2 rfl h
          · have hc2 : c ≠ 92 := by simpa using hb
            intro s
            (run_tac gR 8 715)
            (refine gp [0, 1, 2, 3, 4, 5, 6, 7, 8, 9, 10, 11, 12] 13 [] 0 (by kernel_rfl) ?_; intro ns29 ts29 Gs29 s29; refine kb (by kernel_rfl) (fun _ _ => stradd_ok (x := tok) (y := ⟨#[c]⟩) (by kernel_rfl) (add_len hl ht hlt).2) ?_)
            rintro _ ⟨z, k2, rfl, hz2⟩ n t G s
            obtain rfl := hz2
            (run_tac gR 8 45760)
            (refine gp [10, 11, 12, 0, 1, 2, 3, 4, 5, 6, 7, 8, 9] 13 [] 0 (by kernel_rfl) ?_; intro ns31 ts31 Gs31 s31; refine ka 13 (IH (pos + 1) (ln + nl c) (tok ++ ⟨#[c]⟩) ⟨#[c]⟩ (by dsimp only; (run_tac om)) (by dsimp only; (run_tac om)) (by have := (add_len (c := c) hl ht hlt).1; (run_tac om))) (by kernel_rfl) ?_ ?_)
            · trivial
            · exact fun r H' h => InP.step1 (I := ⟨_, a, pF, pI, pM, tx, pb⟩) hs hb0.symm hc2 h)
  run_tac sq
theorem fin_open {I : InP} {o : LX} {pos : Nat} {ln : Int} {T : Cells} {GT : GL} {r : Result} {H : HS} (h : I.fin o pos ln T GT r H) :
    (o.ret = true ∧ ∃ ch k J, r = .ok (.ret (.str (strOf o.tok) k)) ∧ H = ⟨build (I.vs (strOf o.tok) ch (pos + o.cons) (ln + o.nls)) J T, GT⟩) ∨
    (o.ret = false ∧ ∃ ch J, r = .ok .next ∧ H = ⟨build (I.vsE (strOf o.tok) ch (pos + o.cons) (ln + o.nls)) J T, GT⟩) := by
  obtain ⟨ch, ⟨h1, h⟩ | ⟨h1, h⟩⟩ := h
  · obtain ⟨k, _, J, h2, h3⟩ := h.open
    exact .inl ⟨h1, ch, k, J, h2, h3⟩
  · obtain ⟨J, h2, h3⟩ := h.open
    exact .inr ⟨h1, ch, J, h2, h3⟩
set_option maxHeartbeats 0 in
theorem out_step {a : LA} {pF pI pM : Nat} {tx : Str} {pb : List PySem.Value} (hl : tx.length ≤ sizeLine) (hR : ReadOk (cx w b1 b2 h₀ d os hk hN) (W2 w b1 b2).params) (fuel : Nat)
    (hQ : ∀ fuel, InOk (cx w b1 b2 h₀ d os hk hN) ⟨(W2 w b1 b2).params, a, pF, pI, pM, tx, pb⟩ (inQ (W2 w b1 b2).params) isQ fuel)
    (hU : ∀ fuel, InOk (cx w b1 b2 h₀ d os hk hN) ⟨(W2 w b1 b2).params, a, pF, pI, pM, tx, pb⟩ (inU (W2 w b1 b2).params) isWs fuel)
    (IH : OutOk (cx w b1 b2 h₀ d os hk hN) ⟨(W2 w b1 b2).params, a, pF, pI, pM, tx, pb⟩ fuel) :
    OutOk (cx w b1 b2 h₀ d os hk hN) ⟨(W2 w b1 b2).params, a, pF, pI, pM, tx, pb⟩ (fuel + 1) := by
  run_tac sq0
  intro pos ln chs hch hf hp
  dsimp only at hf hp
  refine sp_of fun p T GT J hP n t G => ?_
  have hch0 := hch
  rcases hch with rfl | ⟨ch, rfl⟩ <;> intro s
  · (
      (run_tac gR 11 206209294466)
      (refine gp [3, 4, 5, 6, 7, 8, 9, 10, 11, 12, 0, 1, 2] 13 [] 0 (by kernel_rfl) ?_; intro ns2 ts2 Gs2 s2; refine ko 10 (hR a tx pos ln pb hl) (by kernel_rfl) ?_ ?_)
      · trivial
      intro r H' h
      rcases readQ_open h with ⟨hn, k, J, rfl, rfl⟩ | ⟨c, hs, k, J, rfl, rfl⟩ <;> intro n t G s
      · (run_tac gR 3 780)
        (run_tac Mine.gxT 0)
        intro x _
        cases x <;> intro s
        · (run_tac gR 20 1372525600719295233)
          (refine gp [12, 13, 14, 2, 3, 4, 5, 6, 7, 8, 9, 10, 11] 15 [] 0 (by kernel_rfl) ?_; intro ns6 ts6 Gs6 s6; refine ke (by kernel_rfl) ?_)
          exact InP.o_end (I := ⟨_, a, pF, pI, pM, tx, pb⟩) hn hch0 (flows 13 (by kernel_rfl))
        · (run_tac gR 17 21445712511238988)
          (refine gp [12, 13, 14, 2, 3, 4, 5, 6, 7, 8, 9, 10, 11] 15 [] 0 (by kernel_rfl) ?_; intro ns8 ts8 Gs8 s8; refine ke (by kernel_rfl) ?_)
          exact InP.o_end (I := ⟨_, a, pF, pI, pM, tx, pb⟩) hn hch0 (flows 13 (by kernel_rfl))
      · have hlt := at_lt hs
        (run_tac gR 3 780)
        (run_tac Mine.gxT 0)
        intro x _
        cases x with
        | isTrue h => exact absurd h (by simp [unvvs, unvv])
        | isFalse h =>
          intro s
          (run_tac gR 36 5075631532327126149658894446593)
          (refine gp [0, 1, 2, 3, 4, 5, 6, 7, 8, 9, 10, 11, 12] 13 [] 0 (by kernel_rfl) ?_; intro ns11 ts11 Gs11 s11; refine kb (by kernel_rfl) (fun _ _ => strin_ok (x := sWs) (y := ⟨#[c]⟩) (by kernel_rfl)) ?_)
          rintro _ ⟨b, rfl, hb⟩
          rw [in_ws] at hb
          have hb0 := hb
          cases b
          rotate_left
          · intro n t G s
            (run_tac gR 2 0)
            (refine gp [10, 11, 12, 0, 1, 2, 3, 4, 5, 6, 7, 8, 9] 13 [] 0 (by kernel_rfl) ?_; intro ns13 ts13 Gs13 s13; refine ka 13 (IH (pos + 1) (ln + nl c) [(.s sCh, .s ⟨#[c]⟩)] (.inr ⟨_, rfl⟩) (by dsimp only; (run_tac om)) (by dsimp only; (run_tac om))) (by kernel_rfl) ?_ ?_)
            · trivial
            · exact fun r H' h => InP.o_ws (I := ⟨_, a, pF, pI, pM, tx, pb⟩) hs hb0.symm h
          · intro n t G s
            (run_tac gR 9 75)
            refine gs (([c] : List Nat) == [34]) (by kernel_rfl) (fun hb => ?_) (fun hb => ?_)
            · obtain rfl : c = 34 := by simpa using hb
              intro s
              (run_tac gR 13 13086540555)
              (refine gp [10, 11, 12, 0, 1, 2, 3, 4, 5, 6, 7, 8, 9] 13 [] 0 (by kernel_rfl) ?_; intro ns17 ts17 Gs17 s17; refine kc 13 (hQ (tx.length + 1) (pos + 1) (ln + nl 34) ⟨#[]⟩ ⟨#[34]⟩ (by dsimp only; (run_tac om)) (by dsimp only; (run_tac om)) (Nat.zero_le _)) (by kernel_rfl) ?_ ?_)
              · trivial
              intro r H' h
              rcases fin_open h with ⟨h1, ch2, k, J, rfl, rfl⟩ | ⟨h1, ch2, J, rfl, rfl⟩ <;> intro n t G s
              · (run_tac gR 0 0)
                (refine gp [0, 1, 2, 3, 4, 5, 6, 7, 8, 9, 10, 11, 12] 13 [] 0 (by kernel_rfl) ?_; intro ns20 ts20 Gs20 s20; refine ke (by kernel_rfl) ?_)
                exact InP.o_in (I := ⟨_, a, pF, pI, pM, tx, pb⟩) (o' := lx isQ (restAt tx (pos + 1)) []) (pos' := pos + 1) (ln' := ln + nl 34) (.inl ⟨h1, ch2, rets 13 (by kernel_rfl)⟩) (InP.o_q hs) (by (run_tac om)) (by (run_tac om))
              · (run_tac gR 14 270466)
                (refine gp [2, 3, 4, 5, 6, 7, 8, 9, 10, 11, 12, 13, 14] 15 [] 0 (by kernel_rfl) ?_; intro ns22 ts22 Gs22 s22; refine ke (by kernel_rfl) ?_)
                exact InP.o_in (I := ⟨_, a, pF, pI, pM, tx, pb⟩) (o' := lx isQ (restAt tx (pos + 1)) []) (pos' := pos + 1) (ln' := ln + nl 34) (.inr ⟨h1, [(.s sCh, .s ch2)], .inr ⟨ch2, rfl⟩, flows 13 (by kernel_rfl)⟩) (InP.o_q hs) (by (run_tac om)) (by (run_tac om))
            · have hq : c ≠ 34 := by simpa using hb
              intro s
              (run_tac gR 9 75)
              refine gs (([c] : List Nat) == [92]) (by kernel_rfl) (fun hb => ?_) (fun hb => ?_)
              · obtain rfl : c = 92 := by simpa using hb
                intro s
                (run_tac gR 23 1315311291812774140413214987)
                (refine gp [0, 1, 2, 3, 4, 5, 6, 7, 8, 9, 10, 11, 12] 13 [] 0 (by kernel_rfl) ?_; intro ns25 ts25 Gs25 s25; refine kc 10 (hR a tx (pos + 1) (ln + nl 92) pb hl) (by kernel_rfl) ?_ ?_)
                · trivial
                intro r H' h
                rcases readQ_open h with ⟨hn, k, J, rfl, rfl⟩ | ⟨c, hs2, k, J, rfl, rfl⟩ <;> intro n t G s
                · (run_tac gR 37 3683533697990814857999040)
                  (refine gp [10, 11, 12, 0, 1, 2, 3, 4, 5, 6, 7, 8, 9] 13 [] 0 (by kernel_rfl) ?_; intro ns28 ts28 Gs28 s28; refine kc 13 (hU (tx.length + 1) (pos + 1) (ln + nl 92) ⟨#[]⟩ ⟨#[]⟩ (by dsimp only; (run_tac om)) (by dsimp only; (run_tac om)) (Nat.zero_le _)) (by kernel_rfl) ?_ ?_)
                  · trivial
                  intro r H' h
                  rcases fin_open h with ⟨h1, ch2, k, J, rfl, rfl⟩ | ⟨h1, ch2, J, rfl, rfl⟩ <;> intro n t G s
                  · (run_tac gR 0 0)
                    (refine gp [0, 1, 2, 3, 4, 5, 6, 7, 8, 9, 10, 11, 12] 13 [] 0 (by kernel_rfl) ?_; intro ns31 ts31 Gs31 s31; refine ke (by kernel_rfl) ?_)
                    exact InP.o_in (I := ⟨_, a, pF, pI, pM, tx, pb⟩) (o' := lx isWs (restAt tx (pos + 1)) []) (pos' := pos + 1) (ln' := ln + nl 92) (.inl ⟨h1, ch2, rets 13 (by kernel_rfl)⟩) (InP.o_b0 hs hn) (by (run_tac om)) (by (run_tac om))
                  · (run_tac gR 14 270466)
                    (refine gp [2, 3, 4, 5, 6, 7, 8, 9, 10, 11, 12, 13, 14] 15 [] 0 (by kernel_rfl) ?_; intro ns33 ts33 Gs33 s33; refine ke (by kernel_rfl) ?_)
                    exact InP.o_in (I := ⟨_, a, pF, pI, pM, tx, pb⟩) (o' := lx isWs (restAt tx (pos + 1)) []) (pos' := pos + 1) (ln' := ln + nl 92) (.inr ⟨h1, [(.s sCh, .s ch2)], .inr ⟨ch2, rfl⟩, flows 13 (by kernel_rfl)⟩) (InP.o_b0 hs hn) (by (run_tac om)) (by (run_tac om))
                · have hlt2 := at_lt hs2
                  (run_tac gR 37 3683533697990814857999040)
                  (refine gp [10, 11, 12, 0, 1, 2, 3, 4, 5, 6, 7, 8, 9] 13 [] 0 (by kernel_rfl) ?_; intro ns35 ts35 Gs35 s35; refine kc 13 (hU (tx.length + 1) (pos + 1 + 1) (ln + nl 92 + nl c) ⟨#[c]⟩ ⟨#[c]⟩ (by dsimp only; (run_tac om)) (by dsimp only; (run_tac om)) (by show 1 ≤ _; (run_tac om))) (by kernel_rfl) ?_ ?_)
                  · trivial
                  intro r H' h
                  rcases fin_open h with ⟨h1, ch2, k, J, rfl, rfl⟩ | ⟨h1, ch2, J, rfl, rfl⟩ <;> intro n t G s
                  · (run_tac gR 0 0)
                    (refine gp [0, 1, 2, 3, 4, 5, 6, 7, 8, 9, 10, 11, 12] 13 [] 0 (by kernel_rfl) ?_; intro ns38 ts38 Gs38 s38; refine ke (by kernel_rfl) ?_)
                    exact InP.o_in (I := ⟨_, a, pF, pI, pM, tx, pb⟩) (o' := lx isWs (restAt tx (pos + 1 + 1)) [c]) (pos' := pos + 1 + 1) (ln' := ln + nl 92 + nl c) (.inl ⟨h1, ch2, rets 13 (by kernel_rfl)⟩) (InP.o_b hs hs2) (by (run_tac om)) (by (run_tac om))
                  · (run_tac gR 14 270466)
                    (refine gp [2, 3, 4, 5, 6, 7, 8, 9, 10, 11, 12, 13, 14] 15 [] 0 (by kernel_rfl) ?_; intro ns40 ts40 Gs40 s40; refine ke (by kernel_rfl) ?_)
                    exact InP.o_in (I := ⟨_, a, pF, pI, pM, tx, pb⟩) (o' := lx isWs (restAt tx (pos + 1 + 1)) [c]) (pos' := pos + 1 + 1) (ln' := ln + nl 92 + nl c) (.inr ⟨h1, [(.s sCh, .s ch2)], .inr ⟨ch2, rfl⟩, flows 13 (by kernel_rfl)⟩) (InP.o_b hs hs2) (by (run_tac om)) (by (run_tac om))
              · have hc2 : c ≠ 92 := by simpa using hb
                intro s
                (run_tac gR 30 14051565925563105995)
                (refine gp [10, 11, 12, 0, 1, 2, 3, 4, 5, 6, 7, 8, 9] 13 [] 0 (by kernel_rfl) ?_; intro ns42 ts42 Gs42 s42; refine kc 13 (hU (tx.length + 1) (pos + 1) (ln + nl c) ⟨#[c]⟩ ⟨#[c]⟩ (by dsimp only; (run_tac om)) (by dsimp only; (run_tac om)) (by show 1 ≤ _; (run_tac om))) (by kernel_rfl) ?_ ?_)
                · trivial
                intro r H' h
                rcases fin_open h with ⟨h1, ch2, k, J, rfl, rfl⟩ | ⟨h1, ch2, J, rfl, rfl⟩ <;> intro n t G s
                · (run_tac gR 0 0)
                  (refine gp [0, 1, 2, 3, 4, 5, 6, 7, 8, 9, 10, 11, 12] 13 [] 0 (by kernel_rfl) ?_; intro ns45 ts45 Gs45 s45; refine ke (by kernel_rfl) ?_)
                  exact InP.o_in (I := ⟨_, a, pF, pI, pM, tx, pb⟩) (o' := lx isWs (restAt tx (pos + 1)) [c]) (pos' := pos + 1) (ln' := ln + nl c) (.inl ⟨h1, ch2, rets 13 (by kernel_rfl)⟩) (InP.o_u hs hb0.symm hq hc2) (by (run_tac om)) (by (run_tac om))
                · (run_tac gR 14 270466)
                  (refine gp [2, 3, 4, 5, 6, 7, 8, 9, 10, 11, 12, 13, 14] 15 [] 0 (by kernel_rfl) ?_; intro ns47 ts47 Gs47 s47; refine ke (by kernel_rfl) ?_)
                  exact InP.o_in (I := ⟨_, a, pF, pI, pM, tx, pb⟩) (o' := lx isWs (restAt tx (pos + 1)) [c]) (pos' := pos + 1) (ln' := ln + nl c) (.inr ⟨h1, [(.s sCh, .s ch2)], .inr ⟨ch2, rfl⟩, flows 13 (by kernel_rfl)⟩) (InP.o_u hs hb0.symm hq hc2) (by (run_tac om)) (by (run_tac om)))
  · (
      (run_tac gR 11 206209294466)
      (refine gp [3, 4, 5, 6, 7, 8, 9, 10, 11, 12, 0, 1, 2] 13 [] 0 (by kernel_rfl) ?_; intro ns49 ts49 Gs49 s49; refine ko 10 (hR a tx pos ln pb hl) (by kernel_rfl) ?_ ?_)
      · trivial
      intro r H' h
      rcases readQ_open h with ⟨hn, k, J, rfl, rfl⟩ | ⟨c, hs, k, J, rfl, rfl⟩ <;> intro n t G s
      · (run_tac gR 3 780)
        (run_tac Mine.gxT 0)
        intro x _
        cases x <;> intro s
        · (run_tac gR 20 1372525600719295233)
          (refine gp [12, 13, 14, 2, 3, 4, 5, 6, 7, 8, 9, 10, 11] 15 [] 0 (by kernel_rfl) ?_; intro ns53 ts53 Gs53 s53; refine ke (by kernel_rfl) ?_)
          exact InP.o_end (I := ⟨_, a, pF, pI, pM, tx, pb⟩) hn hch0 (flows 13 (by kernel_rfl))
        · (run_tac gR 17 21445712511238988)
          (refine gp [12, 13, 14, 2, 3, 4, 5, 6, 7, 8, 9, 10, 11] 15 [] 0 (by kernel_rfl) ?_; intro ns55 ts55 Gs55 s55; refine ke (by kernel_rfl) ?_)
          exact InP.o_end (I := ⟨_, a, pF, pI, pM, tx, pb⟩) hn hch0 (flows 13 (by kernel_rfl))
      · have hlt := at_lt hs
        (run_tac gR 3 780)
        (run_tac Mine.gxT 0)
        intro x _
        cases x with
        | isTrue h => exact absurd h (by simp [unvvs, unvv])
        | isFalse h =>
          intro s
          (run_tac gR 36 5075631532327126149658894446593)
          (refine gp [0, 1, 2, 3, 4, 5, 6, 7, 8, 9, 10, 11, 12] 13 [] 0 (by kernel_rfl) ?_; intro ns58 ts58 Gs58 s58; refine kb (by kernel_rfl) (fun _ _ => strin_ok (x := sWs) (y := ⟨#[c]⟩) (by kernel_rfl)) ?_)
          rintro _ ⟨b, rfl, hb⟩
          rw [in_ws] at hb
          have hb0 := hb
          cases b
          rotate_left
          · intro n t G s
            (run_tac gR 2 0)
            (refine gp [10, 11, 12, 0, 1, 2, 3, 4, 5, 6, 7, 8, 9] 13 [] 0 (by kernel_rfl) ?_; intro ns60 ts60 Gs60 s60; refine ka 13 (IH (pos + 1) (ln + nl c) [(.s sCh, .s ⟨#[c]⟩)] (.inr ⟨_, rfl⟩) (by dsimp only; (run_tac om)) (by dsimp only; (run_tac om))) (by kernel_rfl) ?_ ?_)
            · trivial
            · exact fun r H' h => InP.o_ws (I := ⟨_, a, pF, pI, pM, tx, pb⟩) hs hb0.symm h
          · intro n t G s
            (run_tac gR 9 75)
            refine gs (([c] : List Nat) == [34]) (by kernel_rfl) (fun hb => ?_) (fun hb => ?_)
            · obtain rfl : c = 34 := by simpa using hb
              intro s
              (run_tac gR 13 13086540555)
              (refine gp [10, 11, 12, 0, 1, 2, 3, 4, 5, 6, 7, 8, 9] 13 [] 0 (by kernel_rfl) ?_; intro ns64 ts64 Gs64 s64; refine kc 13 (hQ (tx.length + 1) (pos + 1) (ln + nl 34) ⟨#[]⟩ ⟨#[34]⟩ (by dsimp only; (run_tac om)) (by dsimp only; (run_tac om)) (Nat.zero_le _)) (by kernel_rfl) ?_ ?_)
              · trivial
              intro r H' h
              rcases fin_open h with ⟨h1, ch2, k, J, rfl, rfl⟩ | ⟨h1, ch2, J, rfl, rfl⟩ <;> intro n t G s
              · (run_tac gR 0 0)
                (refine gp [0, 1, 2, 3, 4, 5, 6, 7, 8, 9, 10, 11, 12] 13 [] 0 (by kernel_rfl) ?_; intro ns67 ts67 Gs67 s67; refine ke (by kernel_rfl) ?_)
                exact InP.o_in (I := ⟨_, a, pF, pI, pM, tx, pb⟩) (o' := lx isQ (restAt tx (pos + 1)) []) (pos' := pos + 1) (ln' := ln + nl 34) (.inl ⟨h1, ch2, rets 13 (by kernel_rfl)⟩) (InP.o_q hs) (by (run_tac om)) (by (run_tac om))
              · (run_tac gR 14 270466)
                (refine gp [2, 3, 4, 5, 6, 7, 8, 9, 10, 11, 12, 13, 14] 15 [] 0 (by kernel_rfl) ?_; intro ns69 ts69 Gs69 s69; refine ke (by kernel_rfl) ?_)
                exact InP.o_in (I := ⟨_, a, pF, pI, pM, tx, pb⟩) (o' := lx isQ (restAt tx (pos + 1)) []) (pos' := pos + 1) (ln' := ln + nl 34) (.inr ⟨h1, [(.s sCh, .s ch2)], .inr ⟨ch2, rfl⟩, flows 13 (by kernel_rfl)⟩) (InP.o_q hs) (by (run_tac om)) (by (run_tac om))
            · have hq : c ≠ 34 := by simpa using hb
              intro s
              (run_tac gR 9 75)
              refine gs (([c] : List Nat) == [92]) (by kernel_rfl) (fun hb => ?_) (fun hb => ?_)
              · obtain rfl : c = 92 := by simpa using hb
                intro s
                (run_tac gR 23 1315311291812774140413214987)
                (refine gp [0, 1, 2, 3, 4, 5, 6, 7, 8, 9, 10, 11, 12] 13 [] 0 (by kernel_rfl) ?_; intro ns72 ts72 Gs72 s72; refine kc 10 (hR a tx (pos + 1) (ln + nl 92) pb hl) (by kernel_rfl) ?_ ?_)
                · trivial
                intro r H' h
                rcases readQ_open h with ⟨hn, k, J, rfl, rfl⟩ | ⟨c, hs2, k, J, rfl, rfl⟩ <;> intro n t G s
                · (run_tac gR 37 3683533697990814857999040)
                  (refine gp [10, 11, 12, 0, 1, 2, 3, 4, 5, 6, 7, 8, 9] 13 [] 0 (by kernel_rfl) ?_; intro ns75 ts75 Gs75 s75; refine kc 13 (hU (tx.length + 1) (pos + 1) (ln + nl 92) ⟨#[]⟩ ⟨#[]⟩ (by dsimp only; (run_tac om)) (by dsimp only; (run_tac om)) (Nat.zero_le _)) (by kernel_rfl) ?_ ?_)
                  · trivial
                  intro r H' h
                  rcases fin_open h with ⟨h1, ch2, k, J, rfl, rfl⟩ | ⟨h1, ch2, J, rfl, rfl⟩ <;> intro n t G s
                  · (run_tac gR 0 0)
                    (refine gp [0, 1, 2, 3, 4, 5, 6, 7, 8, 9, 10, 11, 12] 13 [] 0 (by kernel_rfl) ?_; intro ns78 ts78 Gs78 s78; refine ke (by kernel_rfl) ?_)
                    exact InP.o_in (I := ⟨_, a, pF, pI, pM, tx, pb⟩) (o' := lx isWs (restAt tx (pos + 1)) []) (pos' := pos + 1) (ln' := ln + nl 92) (.inl ⟨h1, ch2, rets 13 (by kernel_rfl)⟩) (InP.o_b0 hs hn) (by (run_tac om)) (by (run_tac om))
                  · (run_tac gR 14 270466)
                    (refine gp [2, 3, 4, 5, 6, 7, 8, 9, 10, 11, 12, 13, 14] 15 [] 0 (by kernel_rfl) ?_; intro ns80 ts80 Gs80 s80; refine ke (by kernel_rfl) ?_)
                    exact InP.o_in (I := ⟨_, a, pF, pI, pM, tx, pb⟩) (o' := lx isWs (restAt tx (pos + 1)) []) (pos' := pos + 1) (ln' := ln + nl 92) (.inr ⟨h1, [(.s sCh, .s ch2)], .inr ⟨ch2, rfl⟩, flows 13 (by kernel_rfl)⟩) (InP.o_b0 hs hn) (by (run_tac om)) (by (run_tac om))
                · have hlt2 := at_lt hs2
                  (run_tac gR 37 3683533697990814857999040)
                  (refine gp [10, 11, 12, 0, 1, 2, 3, 4, 5, 6, 7, 8, 9] 13 [] 0 (by kernel_rfl) ?_; intro ns82 ts82 Gs82 s82; refine kc 13 (hU (tx.length + 1) (pos + 1 + 1) (ln + nl 92 + nl c) ⟨#[c]⟩ ⟨#[c]⟩ (by dsimp only; (run_tac om)) (by dsimp only; (run_tac om)) (by show 1 ≤ _; (run_tac om))) (by kernel_rfl) ?_ ?_)
                  · trivial
                  intro r H' h
                  rcases fin_open h with ⟨h1, ch2, k, J, rfl, rfl⟩ | ⟨h1, ch2, J, rfl, rfl⟩ <;> intro n t G s
                  · (run_tac gR 0 0)
                    (refine gp [0, 1, 2, 3, 4, 5, 6, 7, 8, 9, 10, 11, 12] 13 [] 0 (by kernel_rfl) ?_; intro ns85 ts85 Gs85 s85; refine ke (by kernel_rfl) ?_)
                    exact InP.o_in (I := ⟨_, a, pF, pI, pM, tx, pb⟩) (o' := lx isWs (restAt tx (pos + 1 + 1)) [c]) (pos' := pos + 1 + 1) (ln' := ln + nl 92 + nl c) (.inl ⟨h1, ch2, rets 13 (by kernel_rfl)⟩) (InP.o_b hs hs2) (by (run_tac om)) (by (run_tac om))
                  · (run_tac gR 14 270466)
                    (refine gp [2, 3, 4, 5, 6, 7, 8, 9, 10, 11, 12, 13, 14] 15 [] 0 (by kernel_rfl) ?_; intro ns87 ts87 Gs87 s87; refine ke (by kernel_rfl) ?_)
                    exact InP.o_in (I := ⟨_, a, pF, pI, pM, tx, pb⟩) (o' := lx isWs (restAt tx (pos + 1 + 1)) [c]) (pos' := pos + 1 + 1) (ln' := ln + nl 92 + nl c) (.inr ⟨h1, [(.s sCh, .s ch2)], .inr ⟨ch2, rfl⟩, flows 13 (by kernel_rfl)⟩) (InP.o_b hs hs2) (by (run_tac om)) (by (run_tac om))
              · have hc2 : c ≠ 92 := by simpa using hb
                intro s
                (run_tac gR 30 14051565925563105995)
                (refine gp [10, 11, 12, 0, 1, 2, 3, 4, 5, 6, 7, 8, 9] 13 [] 0 (by kernel_rfl) ?_; intro ns89 ts89 Gs89 s89; refine kc 13 (hU (tx.length + 1) (pos + 1) (ln + nl c) ⟨#[c]⟩ ⟨#[c]⟩ (by dsimp only; (run_tac om)) (by dsimp only; (run_tac om)) (by show 1 ≤ _; (run_tac om))) (by kernel_rfl) ?_ ?_)
                · trivial
                intro r H' h
                rcases fin_open h with ⟨h1, ch2, k, J, rfl, rfl⟩ | ⟨h1, ch2, J, rfl, rfl⟩ <;> intro n t G s
                · (run_tac gR 0 0)
                  (refine gp [0, 1, 2, 3, 4, 5, 6, 7, 8, 9, 10, 11, 12] 13 [] 0 (by kernel_rfl) ?_; intro ns92 ts92 Gs92 s92; refine ke (by kernel_rfl) ?_)
                  exact InP.o_in (I := ⟨_, a, pF, pI, pM, tx, pb⟩) (o' := lx isWs (restAt tx (pos + 1)) [c]) (pos' := pos + 1) (ln' := ln + nl c) (.inl ⟨h1, ch2, rets 13 (by kernel_rfl)⟩) (InP.o_u hs hb0.symm hq hc2) (by (run_tac om)) (by (run_tac om))
                · (run_tac gR 14 270466)
                  (refine gp [2, 3, 4, 5, 6, 7, 8, 9, 10, 11, 12, 13, 14] 15 [] 0 (by kernel_rfl) ?_; intro ns94 ts94 Gs94 s94; refine ke (by kernel_rfl) ?_)
                  exact InP.o_in (I := ⟨_, a, pF, pI, pM, tx, pb⟩) (o' := lx isWs (restAt tx (pos + 1)) [c]) (pos' := pos + 1) (ln' := ln + nl c) (.inr ⟨h1, [(.s sCh, .s ch2)], .inr ⟨ch2, rfl⟩, flows 13 (by kernel_rfl)⟩) (InP.o_u hs hb0.symm hq hc2) (by (run_tac om)) (by (run_tac om)))
  run_tac sq
theorem ofin_open {I : InP} {o : LX} {pos : Nat} {ln : Int} {T : Cells} {GT : GL} {r : Result} {H : HS} (h : I.ofin o pos ln T GT r H) :
    (o.ret = true ∧ ∃ ch k J, r = .ok (.ret (.str (strOf o.tok) k)) ∧ H = ⟨build (I.vo (strOf o.tok) [(.s sCh, .s ch)] (pos + o.cons) (ln + o.nls)) J T, GT⟩) ∨
    (o.ret = false ∧ ∃ chs J, okChs chs ∧ r = .ok .next ∧ H = ⟨build (I.voE (strOf o.tok) chs (pos + o.cons) (ln + o.nls)) J T, GT⟩) := by
  obtain ⟨h1, ch, h⟩ | ⟨h1, chs, hc, h⟩ := h
  · obtain ⟨k, _, J, h2, h3⟩ := h.open
    exact .inl ⟨h1, ch, k, J, h2, h3⟩
  · obtain ⟨J, h2, h3⟩ := h.open
    exact .inr ⟨h1, chs, J, hc, h2, h3⟩
set_option maxHeartbeats 0 in
theorem gt_nil {a : LA} {tx : Str} {pos : Nat} {ln : Int} (hl : tx.length ≤ sizeLine) (hp : pos ≤ tx.length) (hO : ∀ pF pI pM fuel, OutOk (cx w b1 b2 h₀ d os hk hN) ⟨(W2 w b1 b2).params, a, pF, pI, pM, tx, []⟩ fuel) :
    ∀ B, okB gtShapes B = true → Sp (cx w b1 b2 h₀ d os hk hN) (.call (.ref 210) ⟨[.ref (a.pX + 281)], []⟩) B (lexV (W2 w b1 b2).params a tx pos ln []) noP
      (Rets (.s (strOf (outer (restAt tx pos)).tok)) (lexV (W2 w b1 b2).params a tx (pos + (outer (restAt tx pos)).cons) (ln + (outer (restAt tx pos)).nls) [])) := by
  run_tac sq0
  refine sp_of fun p T GT J hP n t G => ?_
  intro s
  (
    (run_tac gR 115 582475840066545083008604661614447144629469205214501918944366770741305035000371376029811919270112817053696)
    (refine gp [2, 0, 1, 3, 4, 5, 6, 7, 8, 9, 10, 11, 12] 13 [] 0 (by kernel_rfl) ?_; intro ns2 ts2 Gs2 s2; refine kc 13 (hO n (n + 2) (n + 1) (tx.length + 1) pos ln [] (.inl rfl) (by dsimp only; (run_tac om)) hp) (by kernel_rfl) ?_ ?_)
    · trivial
    intro r H' h
    rcases ofin_open h with ⟨h1, ch, k, J, rfl, rfl⟩ | ⟨h1, chs, J, hc, rfl, rfl⟩
    · intro n t G s
      (run_tac gR 0 0)
      (refine gp [3, 4, 5, 6, 7, 8, 9, 10, 11, 12] 13 [] 0 (by kernel_rfl) ?_; intro ns5 ts5 Gs5 s5; refine ke (by kernel_rfl) ?_)
      exact rets 10 (by kernel_rfl)
    · rcases hc with rfl | ⟨ch, rfl⟩ <;> intro n t G s
      · (run_tac gR 3 1)
        (refine gp [3, 4, 5, 6, 7, 8, 9, 10, 11, 12] 13 [] 0 (by kernel_rfl) ?_; intro ns7 ts7 Gs7 s7; refine ke (by kernel_rfl) ?_)
        exact rets 10 (by kernel_rfl)
      · (run_tac gR 3 1)
        (refine gp [3, 4, 5, 6, 7, 8, 9, 10, 11, 12] 13 [] 0 (by kernel_rfl) ?_; intro ns9 ts9 Gs9 s9; refine ke (by kernel_rfl) ?_)
        exact rets 10 (by kernel_rfl))
  run_tac sq
set_option maxHeartbeats 0 in
theorem gt_cons {a : LA} {tx : Str} {pos : Nat} {ln : Int} {y : Str} {k : Tok} {pb : List PySem.Value} (hpb : pb.length ≤ 64) :
    ∀ B, okB gtShapes B = true → Sp (cx w b1 b2 h₀ d os hk hN) (.call (.ref 210) ⟨[.ref (a.pX + 281)], []⟩) B (lexV (W2 w b1 b2).params a tx pos ln (.str y k :: pb)) noP
      (Rets (.s y) (lexV (W2 w b1 b2).params a tx pos ln pb)) := by
  run_tac sq0
  refine sp_of fun p T GT J hP n t G => ?_
  intro s
  (
    (run_tac gR 42 1415920329396197260521825550298958407139328)
    (run_tac Mine.gxT 0)
    intro x _
    cases x with
    | isTrue h => exfalso; simp at h; (run_tac om)
    | isFalse h =>
      intro s
      (run_tac gR 34 1318678567237201639024201702572353)
      (run_tac Mine.gxT 0)
      intro z he
      obtain rfl : z = some (0, .str y k) := by rw [← he]; simp [seqIndex?]
      intro s
      (run_tac gR 2 260)
      refine gview 3 ⟨.t "list", none, .seqV pb⟩ ⟨.t "list", none, .seqV ((⟨.str y k :: pb⟩ : Array PySem.Value).eraseIdxIfInBounds 0).toList⟩ (by kernel_rfl) (by simp [Array.eraseIdxIfInBounds]) fun jv J => ?_
      intro s
      (run_tac gR 1 4)
      (run_tac Mine.gxT 0)
      intro y he
      have hp : ∀ ep, (PySem.Data.seq ⟨pb⟩ ep).pastItsLine = none := by
        intro ep
        simp [Data.pastItsLine]
        rw [sizeLine_eq]
        (run_tac om)
      obtain rfl : y = none := by
        rw [← he]
        exact hp _
      intro s
      (run_tac gR 2 0)
      (refine gp [1, 2, 3, 4, 5, 6, 7, 8, 9, 10] 11 [] 0 (by kernel_rfl) ?_; intro ns15 ts15 Gs15 s15; refine ke (by kernel_rfl) ?_)
      exact rets 10 (by kernel_rfl))
  run_tac sq
set_option maxHeartbeats 0 in
theorem gsum_step {a : GA} {ps : List (Str × Str)} (hps : ∀ q ∈ ps, q.1.length ≤ sizeLine ∧ q.2.length ≤ sizeLine) {q : Str} {k : Nat} (IH : GSumOk (cx w b1 b2 h₀ d os hk hN) (W2 w b1 b2).params a ps q k) :
    GSumOk (cx w b1 b2 h₀ d os hk hN) (W2 w b1 b2).params a ps q (k + 1) := by
  run_tac sq0
  rintro x tot idx f s' ⟨k0, lv, p0, rfl, hk0⟩ hlen h0 hb
  refine spG_of fun p T GT J hP n t G => ?_
  intro s
  (
     (run_tac gR 9 1074274433)
     refine gtree (.pure (.again (genLoop (lenE (W2 w b1 b2).params) a.pI a.pFr a.cv q))) (Eq.trans (b := k0 (.send .none)) (by kernel_rfl) hk0) ?_
     intro s
     (run_tac gR 9 84951300)
     (run_tac Mine.gxT 0)
     rcases tups_at hP idx with ⟨h1, h2⟩ | ⟨ad, pr, o, k1, k2, h1, h2, h3, ⟨ep, rfl⟩, h5⟩
     · intro y he
       obtain rfl : y = none := by rw [← he]; simpa using h1
       intro s
       (run_tac gR 14 16781572)
       (refine gp [8] 9 [] 1 (by kernel_rfl) ?_; intro ns4 ts4 Gs4 s4; refine ke (by kernel_rfl) ?_)
       rw [h2]
       exact GA.last (rets 1 (by kernel_rfl))
     · intro y he
       obtain rfl : y = some (.ref ad) := by rw [← he]; simpa using h1
       intro s
       obtain ⟨T1, T2, hT⟩ := List.append_of_mem h3
       refine gbring 5 T _ T1 T2 hT (by kernel_rfl) fun n t G => ?_
       intro s
       have hmem : pr ∈ ps := by
         have : pr ∈ ps.drop idx := by rw [h2]; exact .head _
         exact List.mem_of_mem_drop this
       have hb' := hb
       rw [h2] at hb'
       have hsz : sizeOf2 (pr :: ps.drop (idx + 1)) = pr.1.length + pr.2.length + sizeOf2 (ps.drop (idx + 1)) := by unfold sizeOf2; simp
       rw [hsz] at hb'
       (run_tac gR 71 165642554072198957402447329581200873443347820182298034616706682391642372)
       (refine gp [3, 4, 5, 6, 7, 8] 9 [0] 1 (by kernel_rfl) ?_; intro ns6 ts6 Gs6 s6; refine kb (by kernel_rfl) (fun _ _ => lenstr_ok (x := pr.1) (by kernel_rfl) (hps _ hmem).1) ?_)
       rintro _ ⟨i0, kk, rfl, hi0⟩ n t G s
       (run_tac gR 9 12288)
       (refine gp [0, 1, 2, 3, 4, 5] 6 [0] 1 (by kernel_rfl) ?_; intro ns8 ts8 Gs8 s8; refine kb (by kernel_rfl) (fun _ _ => lenstr_ok (x := pr.2) (by kernel_rfl) (hps _ hmem).2) ?_)
       rintro _ ⟨i1, kk, rfl, hi1⟩ n t G s
       (run_tac gR 10 0)
       (run_tac Mine.gxT 0)
       intro y _
       cases y with
       | isFalse h => exact absurd (fits2 (a := i0 + i1) (b := tot + (i0 + i1)) (by (run_tac om)) (by (run_tac om)) (by (run_tac om)) (by (run_tac om))) h
       | isTrue h =>
         intro s
         (run_tac gR 4 4161)
         (refine gp [0, 1, 2, 3, 4, 5] 6 [0] 1 (by kernel_rfl) ?_; intro ns11 ts11 Gs11 s11)
         refine gput 5 T _ T1 T2 hT (by kernel_rfl) fun n t G => ?_
         intro s
         rw [h2]
         refine kaG 5 (IH (headG s.gl) (tot + (i0 + i1)) (idx + 1) pr.1 pr.2 (susp_of (by kernel_rfl) (by kernel_rfl)) (by (run_tac om)) (by (run_tac om)) (by push_cast at hb' ⊢; (run_tac om))) (by kernel_rfl) hP ?_
         exact fun r H' h => GA.step (by (run_tac om)) h)
  run_tac sq
set_option maxHeartbeats 0 in
theorem len_ok {pA pAD : Nat} {as : List Addr} {ps : List (Str × Str)} (hps : ∀ q ∈ ps, q.1.length ≤ sizeLine ∧ q.2.length ≤ sizeLine) (hb : sizeOf2 ps < 2 ^ 59) {tb : List PySem.Value} (htb : lenT tb)
    (hG : ∀ a q k, GSumOk (cx w b1 b2 h₀ d os hk hN) (W2 w b1 b2).params a ps q k) :
    ∀ B, okB lnShapes B = true → Sp (cx w b1 b2 h₀ d os hk hN) (.call (.ref 145) ⟨[.ref (pA + 281)], []⟩) B (lnV pA pAD as tb) (fun T => Tups T as ps) (lnQ pA pAD as ps) := by
  run_tac sq0
  (
  refine sp_of fun p T GT J hP n t G => ?_
  intro s
  have hP0 := hP
  cases hP with
  | nil =>
    rcases htb with rfl | ⟨c, rfl⟩
    · cases b1
      · (run_tac gR 97 34718265726933637546616417983464927057406989482371208399349633309566481749101866282426568433467392)
        (run_tac gR 46 5445994800871536790425026711758442078337)
        (refine gp [12, 13, 14] 15 [] 1 (by kernel_rfl) ?_; intro ns3 ts3 Gs3 s3; refine ke (by kernel_rfl) ?_)
        exact ⟨_, .inr ⟨n + 285, rfl⟩, rets 3 (by kernel_rfl)⟩
      · (run_tac gR 97 34718265726933637546616417983464927057406989482371208399349633309566481749101866282426568433467392)
        (run_tac gR 36 5071977899290189851868734693505)
        (refine gp [12, 13, 14] 15 [] 1 (by kernel_rfl) ?_; intro ns6 ts6 Gs6 s6; refine ke (by kernel_rfl) ?_)
        exact ⟨_, .inr ⟨n + 285, rfl⟩, rets 3 (by kernel_rfl)⟩
    · cases b1
      · (run_tac gR 86 132439672971435164942900334546304753678165563195902265722062835624005096147367864083146866688)
        (run_tac gR 46 5445931504300308937291680546482486255745)
        (refine gp [9, 10, 11] 12 [] 1 (by kernel_rfl) ?_; intro ns9 ts9 Gs9 s9; refine ke (by kernel_rfl) ?_)
        exact ⟨_, .inr ⟨c, rfl⟩, rets 3 (by kernel_rfl)⟩
      · (run_tac gR 86 132439672971435164942900334546304753678165563195902265722062835624005096147367864083146866688)
        (run_tac gR 36 5071918949764509609068738388097)
        (refine gp [9, 10, 11] 12 [] 1 (by kernel_rfl) ?_; intro ns12 ts12 Gs12 s12; refine ke (by kernel_rfl) ?_)
        exact ⟨_, .inr ⟨c, rfl⟩, rets 3 (by kernel_rfl)⟩
  | @cons ad pr as ps o h3 k1 k2 ho hr =>
    have hP := hP0
    obtain ⟨ep, rfl⟩ := ho
    obtain ⟨T1, T2, hT⟩ := List.append_of_mem h3
    have hsz : sizeOf2 (pr :: ps) = pr.1.length + pr.2.length + sizeOf2 ps := by unfold sizeOf2; simp
    rw [hsz] at hb
    refine gbring 3 T _ T1 T2 hT (by kernel_rfl) fun n t G => ?_
    intro s
    rcases htb with rfl | ⟨c, rfl⟩
    · cases b1
      · (run_tac gR 97 34718265726933637546616417983464927057406989482371208399349633309566481749101866282426568433467392)
        (run_tac gR 101 53754082071797747878122119508323294542073474391413829983813368278792653320818047451181773430923867988097)
        (refine gp [3, 4, 5, 6, 7, 8, 9, 10, 11, 12, 13, 14] 15 [0] 1 (by kernel_rfl) ?_; intro ns15 ts15 Gs15 s15; refine kb (by kernel_rfl) (fun _ _ => lenstr_ok (x := pr.1) (by kernel_rfl) (hps pr (.head _)).1) ?_)
        rintro _ ⟨i0, kk, rfl, hi0⟩ n2 t2 G2 s
        (run_tac gR 9 12288)
        (refine gp [0, 1, 2, 3, 4, 5, 6, 7, 8, 9, 10, 11] 12 [0] 1 (by kernel_rfl) ?_; intro ns17 ts17 Gs17 s17; refine kb (by kernel_rfl) (fun _ _ => lenstr_ok (x := pr.2) (by kernel_rfl) (hps pr (.head _)).2) ?_)
        rintro _ ⟨i1, kk, rfl, hi1⟩ n3 t3 G3 s
        (run_tac gR 10 0)
        (run_tac Mine.gxT 0)
        intro y _
        cases y with
        | isFalse h => exact absurd (fits2 (a := i0 + i1) (b := 0 + (i0 + i1)) (by (run_tac om)) (by (run_tac om)) (by (run_tac om)) (by (run_tac om))) h
        | isTrue h =>
          intro s
          (run_tac gR 4 4161)
          (refine gp [0, 1, 2, 6, 8, 9, 10, 11] 12 [0] 1 (by kernel_rfl) ?_; intro ns20 ts20 Gs20 s20)
          refine gput 7 T _ T1 T2 hT (by kernel_rfl) fun n4 t4 G4 => ?_
          intro s
          refine koG 5 (hG ⟨n + 7, n + 6, n + 5, n + 1, .ref (n + 285), pA, pAD, ad :: as, G, sLenGq⟩ (gqual (headG s.gl)) (ps.length + 1) (headG s.gl) (0 + (i0 + i1)) 1 pr.1 pr.2 (susp_of (by kernel_rfl) (by kernel_rfl)) (by constructor <;> simp only [List.length_cons] <;> (run_tac om)) (by (run_tac om)) (by simp only [List.drop_succ_cons, List.drop_zero]; (run_tac om))) (by kernel_rfl) (tups_up 2 hP (by kernel_rfl)) ?_
          intro r H' h
          (apply Rets.elim h; intro k a J)
          intro n5 t5 G5 s
          (run_tac gR 2 0)
          (refine gp [0, 1, 2] 3 [] 0 (by kernel_rfl) ?_; intro ns22 ts22 Gs22 s22; refine ke (by kernel_rfl) ?_)
          refine ⟨_, .inr ⟨n + 285, rfl⟩, ?_⟩
          rw [← (show (0 : Int) + (i0 + i1) + sizeOf2 ((pr :: ps).drop 1) = sizeOf2 (pr :: ps) by rw [hsz, hi0, hi1]; simp only [List.drop_succ_cons, List.drop_zero]; push_cast; (run_tac om))]
          exact rets 3 (by kernel_rfl)
      · (run_tac gR 97 34718265726933637546616417983464927057406989482371208399349633309566481749101866282426568433467392)
        (run_tac gR 91 50062390111198414003590233166071860624545695624699657767837278804548693188296675139673586671745)
        (refine gp [3, 4, 5, 6, 7, 8, 9, 10, 11, 12, 13, 14] 15 [0] 1 (by kernel_rfl) ?_; intro ns25 ts25 Gs25 s25; refine kb (by kernel_rfl) (fun _ _ => lenstr_ok (x := pr.1) (by kernel_rfl) (hps pr (.head _)).1) ?_)
        rintro _ ⟨i0, kk, rfl, hi0⟩ n2 t2 G2 s
        (run_tac gR 9 12288)
        (refine gp [0, 1, 2, 3, 4, 5, 6, 7, 8, 9, 10, 11] 12 [0] 1 (by kernel_rfl) ?_; intro ns27 ts27 Gs27 s27; refine kb (by kernel_rfl) (fun _ _ => lenstr_ok (x := pr.2) (by kernel_rfl) (hps pr (.head _)).2) ?_)
        rintro _ ⟨i1, kk, rfl, hi1⟩ n3 t3 G3 s
        (run_tac gR 10 0)
        (run_tac Mine.gxT 0)
        intro y _
        cases y with
        | isFalse h => exact absurd (fits2 (a := i0 + i1) (b := 0 + (i0 + i1)) (by (run_tac om)) (by (run_tac om)) (by (run_tac om)) (by (run_tac om))) h
        | isTrue h =>
          intro s
          (run_tac gR 4 4161)
          (refine gp [0, 1, 2, 6, 8, 9, 10, 11] 12 [0] 1 (by kernel_rfl) ?_; intro ns30 ts30 Gs30 s30)
          refine gput 7 T _ T1 T2 hT (by kernel_rfl) fun n4 t4 G4 => ?_
          intro s
          refine koG 5 (hG ⟨n + 7, n + 6, n + 5, n + 1, .ref (n + 285), pA, pAD, ad :: as, G, sLenGq⟩ (gqual (headG s.gl)) (ps.length + 1) (headG s.gl) (0 + (i0 + i1)) 1 pr.1 pr.2 (susp_of (by kernel_rfl) (by kernel_rfl)) (by constructor <;> simp only [List.length_cons] <;> (run_tac om)) (by (run_tac om)) (by simp only [List.drop_succ_cons, List.drop_zero]; (run_tac om))) (by kernel_rfl) (tups_up 2 hP (by kernel_rfl)) ?_
          intro r H' h
          (apply Rets.elim h; intro k a J)
          intro n5 t5 G5 s
          (run_tac gR 2 0)
          (refine gp [0, 1, 2] 3 [] 0 (by kernel_rfl) ?_; intro ns32 ts32 Gs32 s32; refine ke (by kernel_rfl) ?_)
          refine ⟨_, .inr ⟨n + 285, rfl⟩, ?_⟩
          rw [← (show (0 : Int) + (i0 + i1) + sizeOf2 ((pr :: ps).drop 1) = sizeOf2 (pr :: ps) by rw [hsz, hi0, hi1]; simp only [List.drop_succ_cons, List.drop_zero]; push_cast; (run_tac om))]
          exact rets 3 (by kernel_rfl)
    · cases b1
      · (run_tac gR 86 132439672971435164942900334546304753678165563195902265722062835624005096147367864083146866688)
        (run_tac gR 101 53754082071797747878116428095553100682358575006833733667899306709740927363298121074823627265786671276161)
        (refine gp [3, 4, 5, 6, 7, 8, 9, 10, 11] 12 [0] 1 (by kernel_rfl) ?_; intro ns35 ts35 Gs35 s35; refine kb (by kernel_rfl) (fun _ _ => lenstr_ok (x := pr.1) (by kernel_rfl) (hps pr (.head _)).1) ?_)
        rintro _ ⟨i0, kk, rfl, hi0⟩ n2 t2 G2 s
        (run_tac gR 9 12288)
        (refine gp [0, 1, 2, 3, 4, 5, 6, 7, 8] 9 [0] 1 (by kernel_rfl) ?_; intro ns37 ts37 Gs37 s37; refine kb (by kernel_rfl) (fun _ _ => lenstr_ok (x := pr.2) (by kernel_rfl) (hps pr (.head _)).2) ?_)
        rintro _ ⟨i1, kk, rfl, hi1⟩ n3 t3 G3 s
        (run_tac gR 10 0)
        (run_tac Mine.gxT 0)
        intro y _
        cases y with
        | isFalse h => exact absurd (fits2 (a := i0 + i1) (b := 0 + (i0 + i1)) (by (run_tac om)) (by (run_tac om)) (by (run_tac om)) (by (run_tac om))) h
        | isTrue h =>
          intro s
          (run_tac gR 4 4161)
          (refine gp [0, 1, 2, 3, 5, 6, 7, 8] 9 [0] 1 (by kernel_rfl) ?_; intro ns40 ts40 Gs40 s40)
          refine gput 7 T _ T1 T2 hT (by kernel_rfl) fun n4 t4 G4 => ?_
          intro s
          refine koG 5 (hG ⟨n + 4, n + 3, n + 2, n + 1, .ref c, pA, pAD, ad :: as, G, sLenGq⟩ (gqual (headG s.gl)) (ps.length + 1) (headG s.gl) (0 + (i0 + i1)) 1 pr.1 pr.2 (susp_of (by kernel_rfl) (by kernel_rfl)) (by constructor <;> simp only [List.length_cons] <;> (run_tac om)) (by (run_tac om)) (by simp only [List.drop_succ_cons, List.drop_zero]; (run_tac om))) (by kernel_rfl) (tups_up 2 hP (by kernel_rfl)) ?_
          intro r H' h
          (apply Rets.elim h; intro k a J)
          intro n5 t5 G5 s
          (run_tac gR 2 0)
          (refine gp [0, 1, 2] 3 [] 0 (by kernel_rfl) ?_; intro ns42 ts42 Gs42 s42; refine ke (by kernel_rfl) ?_)
          refine ⟨_, .inr ⟨c, rfl⟩, ?_⟩
          rw [← (show (0 : Int) + (i0 + i1) + sizeOf2 ((pr :: ps).drop 1) = sizeOf2 (pr :: ps) by rw [hsz, hi0, hi1]; simp only [List.drop_succ_cons, List.drop_zero]; push_cast; (run_tac om))]
          exact rets 3 (by kernel_rfl)
      · (run_tac gR 86 132439672971435164942900334546304753678165563195902265722062835624005096147367864083146866688)
        (run_tac gR 91 50062390111198414003584932624877524266353412537680690798814694126826643350811787932774928228481)
        (refine gp [3, 4, 5, 6, 7, 8, 9, 10, 11] 12 [0] 1 (by kernel_rfl) ?_; intro ns45 ts45 Gs45 s45; refine kb (by kernel_rfl) (fun _ _ => lenstr_ok (x := pr.1) (by kernel_rfl) (hps pr (.head _)).1) ?_)
        rintro _ ⟨i0, kk, rfl, hi0⟩ n2 t2 G2 s
        (run_tac gR 9 12288)
        (refine gp [0, 1, 2, 3, 4, 5, 6, 7, 8] 9 [0] 1 (by kernel_rfl) ?_; intro ns47 ts47 Gs47 s47; refine kb (by kernel_rfl) (fun _ _ => lenstr_ok (x := pr.2) (by kernel_rfl) (hps pr (.head _)).2) ?_)
        rintro _ ⟨i1, kk, rfl, hi1⟩ n3 t3 G3 s
        (run_tac gR 10 0)
        (run_tac Mine.gxT 0)
        intro y _
        cases y with
        | isFalse h => exact absurd (fits2 (a := i0 + i1) (b := 0 + (i0 + i1)) (by (run_tac om)) (by (run_tac om)) (by (run_tac om)) (by (run_tac om))) h
        | isTrue h =>
          intro s
          (run_tac gR 4 4161)
          (refine gp [0, 1, 2, 3, 5, 6, 7, 8] 9 [0] 1 (by kernel_rfl) ?_; intro ns50 ts50 Gs50 s50)
          refine gput 7 T _ T1 T2 hT (by kernel_rfl) fun n4 t4 G4 => ?_
          intro s
          refine koG 5 (hG ⟨n + 4, n + 3, n + 2, n + 1, .ref c, pA, pAD, ad :: as, G, sLenGq⟩ (gqual (headG s.gl)) (ps.length + 1) (headG s.gl) (0 + (i0 + i1)) 1 pr.1 pr.2 (susp_of (by kernel_rfl) (by kernel_rfl)) (by constructor <;> simp only [List.length_cons] <;> (run_tac om)) (by (run_tac om)) (by simp only [List.drop_succ_cons, List.drop_zero]; (run_tac om))) (by kernel_rfl) (tups_up 2 hP (by kernel_rfl)) ?_
          intro r H' h
          (apply Rets.elim h; intro k a J)
          intro n5 t5 G5 s
          (run_tac gR 2 0)
          (refine gp [0, 1, 2] 3 [] 0 (by kernel_rfl) ?_; intro ns52 ts52 Gs52 s52; refine ke (by kernel_rfl) ?_)
          refine ⟨_, .inr ⟨c, rfl⟩, ?_⟩
          rw [← (show (0 : Int) + (i0 + i1) + sizeOf2 ((pr :: ps).drop 1) = sizeOf2 (pr :: ps) by rw [hsz, hi0, hi1]; simp only [List.drop_succ_cons, List.drop_zero]; push_cast; (run_tac om))]
          exact rets 3 (by kernel_rfl)
  )
  run_tac sq
set_option maxHeartbeats 0 in
theorem gstr_step {a : GA} {ps : List (Str × Str)} (hps : ∀ q ∈ ps, q.1.length + q.2.length ≤ sizeLine) {q : Str} {k : Nat} (IH : GStrOk (cx w b1 b2 h₀ d os hk hN) (W2 w b1 b2).params a ps q k) :
    GStrOk (cx w b1 b2 h₀ d os hk hN) (W2 w b1 b2).params a ps q (k + 1) := by
  run_tac sq0
  rintro x xs idx f s' ⟨k0, lv, p0, rfl, hk0⟩ hlen hb
  refine spG_of fun p T GT J hP n t G => ?_
  intro s
  (
     (run_tac gR 8 16785538)
     refine gtree (.pure (.again (genLoop (strE (W2 w b1 b2).params) a.pI a.pFr a.cv q))) (Eq.trans (b := k0 (.send .none)) (by kernel_rfl) hk0) ?_
     intro s
     (run_tac gR 9 84951300)
     (run_tac Mine.gxT 0)
     rcases tups_at hP idx with ⟨h1, h2⟩ | ⟨ad, pr, o, k1, k2, h1, h2, h3, ⟨ep, rfl⟩, h5⟩
     · intro y he
       obtain rfl : y = none := by rw [← he]; simpa using h1
       intro s
       (run_tac gR 14 16781572)
       (refine gp [4, 8] 9 [] 1 (by kernel_rfl) ?_; intro ns4 ts4 Gs4 s4; refine ke (by kernel_rfl) ?_)
       rw [h2]
       exact GA.slast (rets 2 (by kernel_rfl))
     · intro y he
       obtain rfl : y = some (.ref ad) := by rw [← he]; simpa using h1
       intro s
       obtain ⟨T1, T2, hT⟩ := List.append_of_mem h3
       refine gbring 5 T _ T1 T2 hT (by kernel_rfl) fun n t G => ?_
       intro s
       have hmem : pr ∈ ps := by
         have : pr ∈ ps.drop idx := by rw [h2]; exact .head _
         exact List.mem_of_mem_drop this
       have hb' := hb
       rw [h2] at hb'
       simp only [List.length_cons] at hb'
       (run_tac gR 76 168230708952245418822735363029554757988016986046861929574892628975567108)
       (refine gp [0, 4, 5, 6, 7, 8, 9] 10 [0] 1 (by kernel_rfl) ?_; intro ns6 ts6 Gs6 s6; refine kb (by kernel_rfl) (fun _ _ => join2_ok (x := pr.1) (y := pr.2) (a := n + 284) (by kernel_rfl) 0 (by kernel_rfl) (by kernel_rfl) (hps _ hmem)) ?_)
       rintro _ ⟨z, kk, rfl, rfl⟩ n t G s
       (run_tac gR 8 532608)
       (run_tac Mine.gxT 0)
       intro y he
       obtain rfl : y = none := by
         rw [← he]
         have e : (PySem.W.R.concatR xs (PySem.Value.str (pr.1 ++ pr.2) kk)).length = xs.length + 1 := by rw [concatR_app]; simp
         have hs := sizeLine_eq
         show (if (PySem.W.R.concatR xs (PySem.Value.str (pr.1 ++ pr.2) kk)).length > sizeLine + 1 then some "sequence:memory" else none) = none
         rw [if_neg (by (run_tac om))]
       intro s
       (refine gp [1, 2, 3, 4, 5, 6] 7 [0] 1 (by kernel_rfl) ?_; intro ns8 ts8 Gs8 s8)
       refine gput 5 T _ T1 T2 hT (by kernel_rfl) fun n t G => ?_
       intro s
       rw [h2]
       refine kaG 5 (IH (headG s.gl) (PySem.W.R.concatR xs (.str (pr.1 ++ pr.2) kk)) (idx + 1) pr.1 pr.2 (susp_of (by kernel_rfl) (by kernel_rfl)) (by (run_tac om)) (by rw [concatR_app]; simp at hb' ⊢; (run_tac om))) (by kernel_rfl) hP ?_
       exact fun r H' h => GA.sstep h)
  run_tac sq
set_option maxHeartbeats 0 in
theorem coll_ok {pG pFr pI pA pAD g : Nat} {cv : PySem.Value} {as : List Addr} {gq : Str} {ps : List (Str × Str)} (hps : ∀ q ∈ ps, q.1.length + q.2.length ≤ sizeLine) (hlen : ps.length ≤ 1000) {q : Str}
    (hG : ∀ a q k, GStrOk (cx w b1 b2 h₀ d os hk hN) (W2 w b1 b2).params a ps q k) :
    CollOk (cx w b1 b2 h₀ d os hk hN) (W2 w b1 b2).params ⟨0, pG, pFr, pI, cv, pA, pAD, as, g, gq⟩ ps q := by
  run_tac sq0
  (
  refine spG_of fun p T GT J hP n t G => ?_
  intro s
  dsimp only at hP
  have hP0 := hP
  cases hP with
  | nil =>
    cases b1
    · (run_tac gR 3 2)
      refine gne 0 1 (n + 281) (pG + 281) rfl (by kernel_rfl) (by kernel_rfl) fun hne => ?_
      (run_tac Mine.gxT 0)
      intro x _
      cases x with
      | isTrue h => exact (or3_no h (beq_false_of_ne hne) (by kernel_rfl) (by kernel_rfl)).elim
      | isFalse h =>
        intro s
        (run_tac gR 60 25717684379966403228512779567041005987261089724244155246841986)
        (refine gp [4, 8] 9 [] 1 (by kernel_rfl) ?_; intro ns3 ts3 Gs3 s3; refine ke (by kernel_rfl) ?_)
        exact ⟨n, [], rfl, rets 2 (by kernel_rfl)⟩
    · (run_tac gR 3 2)
      refine gne 0 1 (n + 281) (pG + 281) rfl (by kernel_rfl) (by kernel_rfl) fun hne => ?_
      (run_tac Mine.gxT 0)
      intro x _
      cases x with
      | isTrue h => exact (or3_no h (beq_false_of_ne hne) (by kernel_rfl) (by kernel_rfl)).elim
      | isFalse h =>
        intro s
        (run_tac gR 50 23951460029898586811419259104295565665373583240073346)
        (refine gp [4, 8] 9 [] 1 (by kernel_rfl) ?_; intro ns6 ts6 Gs6 s6; refine ke (by kernel_rfl) ?_)
        exact ⟨n, [], rfl, rets 2 (by kernel_rfl)⟩
  | @cons ad pr as ps o h3 k1 k2 ho hr =>
    have hP := hP0
    obtain ⟨ep, rfl⟩ := ho
    obtain ⟨T1, T2, hT⟩ := List.append_of_mem h3
    refine gbring 4 T _ T1 T2 hT (by kernel_rfl) fun n t G => ?_
    intro s
    cases b1
    · (run_tac gR 3 2)
      refine gne 0 1 (n + 281) (pG + 281) rfl (by kernel_rfl) (by kernel_rfl) fun hne => ?_
      (run_tac Mine.gxT 0)
      intro x _
      cases x with
      | isTrue h => exact (or3_no h (beq_false_of_ne hne) (by kernel_rfl) (by kernel_rfl)).elim
      | isFalse h =>
        intro s
        (run_tac gR 122 257812811306023273846749131111649634064002767653350773307483920810690120116493066187746120018320059303377956098377185973768322)
        (refine gp [0, 4, 5, 6, 7, 8, 9] 10 [0] 1 (by kernel_rfl) ?_; intro ns9 ts9 Gs9 s9; refine kb (by kernel_rfl) (fun _ _ => join2_ok (x := pr.1) (y := pr.2) (a := n + 285) (by kernel_rfl) 0 (by kernel_rfl) (by kernel_rfl) (hps pr (.head _))) ?_)
        rintro _ ⟨z, kk, rfl, rfl⟩ n2 t2 G2 s
        (run_tac gR 8 532608)
        (refine gp [1, 2, 3, 4, 5, 6] 7 [0] 1 (by kernel_rfl) ?_; intro ns11 ts11 Gs11 s11)
        refine gput 5 T _ T1 T2 hT (by kernel_rfl) fun n4 t4 G4 => ?_
        intro s
        refine kaG 5 (hG ⟨n, pG, pFr, pI, cv, pA, pAD, ad :: as, g, gq⟩ q ((pr :: ps).length + 1) (headG s.gl) [.str (pr.1 ++ pr.2) kk] 1 pr.1 pr.2 (susp_of (by kernel_rfl) (by kernel_rfl)) (by constructor <;> simp only [List.length_cons] <;> (run_tac om)) (by simp at hlen ⊢; (run_tac om))) (by kernel_rfl) hP ?_
        rintro r H' ⟨ys, e, h⟩
        exact ⟨n, ys, by rw [e]; simp [catS, vv], h⟩
    · (run_tac gR 3 2)
      refine gne 0 1 (n + 281) (pG + 281) rfl (by kernel_rfl) (by kernel_rfl) fun hne => ?_
      (run_tac Mine.gxT 0)
      intro x _
      cases x with
      | isTrue h => exact (or3_no h (beq_false_of_ne hne) (by kernel_rfl) (by kernel_rfl)).elim
      | isFalse h =>
        intro s
        (run_tac gR 112 240106891194380143514600704528065057531001761232829441602792517105760164667380103931901044911382701460986278284103810)
        (refine gp [0, 4, 5, 6, 7, 8, 9] 10 [0] 1 (by kernel_rfl) ?_; intro ns14 ts14 Gs14 s14; refine kb (by kernel_rfl) (fun _ _ => join2_ok (x := pr.1) (y := pr.2) (a := n + 285) (by kernel_rfl) 0 (by kernel_rfl) (by kernel_rfl) (hps pr (.head _))) ?_)
        rintro _ ⟨z, kk, rfl, rfl⟩ n2 t2 G2 s
        (run_tac gR 8 532608)
        (refine gp [1, 2, 3, 4, 5, 6] 7 [0] 1 (by kernel_rfl) ?_; intro ns16 ts16 Gs16 s16)
        refine gput 5 T _ T1 T2 hT (by kernel_rfl) fun n4 t4 G4 => ?_
        intro s
        refine kaG 5 (hG ⟨n, pG, pFr, pI, cv, pA, pAD, ad :: as, g, gq⟩ q ((pr :: ps).length + 1) (headG s.gl) [.str (pr.1 ++ pr.2) kk] 1 pr.1 pr.2 (susp_of (by kernel_rfl) (by kernel_rfl)) (by constructor <;> simp only [List.length_cons] <;> (run_tac om)) (by simp at hlen ⊢; (run_tac om))) (by kernel_rfl) hP ?_
        rintro r H' ⟨ys, e, h⟩
        exact ⟨n, ys, by rw [e]; simp [catS, vv], h⟩
  )
  run_tac sq
set_option maxHeartbeats 0 in
theorem str_ok {pA pAD : Nat} {as : List Addr} {ps : List (Str × Str)} {tb : List PySem.Value} (htb : strT tb) (hJ : JoOk (cx w b1 b2 h₀ d os hk hN) (W2 w b1 b2).params ps) :
    ∀ B, okB stShapes B = true → Sp (cx w b1 b2 h₀ d os hk hN) (.call (.ref 152) ⟨[.ref (pA + 281)], []⟩) B (stV pA pAD as tb) (fun T => Tups T as ps) (stQ pA pAD as ps) := by
  run_tac sq0
  refine sp_of fun p T GT J hP n t G => ?_
  intro s
  rcases htb with rfl | ⟨c, rfl⟩
  · (
      (run_tac gR 61 1556440795291120692095297639669904269393617191870660608)
      (refine gp [0, 1, 5, 7, 8, 9] 10 [0] 1 (by kernel_rfl) ?_; intro ns2 ts2 Gs2 s2)
      refine koG 4 (hJ ⟨0, n + 6, n + 5, n + 1, .ref (n + 285), pA, pAD, as, G, sStrGq⟩ (fqual (headG (‹Cf› : Cf).gl)) (joTok (codeOf (‹Cf› : Cf).t))) (by kernel_rfl) (tups_up 2 hP (by kernel_rfl)) ?_
      rintro r H' ⟨l, ys, h⟩
      (apply Rets.elim h; intro k a J)
      intro n5 t5 G5 s
      (run_tac gR 2 0)
      (refine gp [1, 2, 3] 4 [] 0 (by kernel_rfl) ?_; intro ns4 ts4 Gs4 s4; refine ke (by kernel_rfl) ?_)
      exact ⟨_, .inr ⟨n + 285, rfl⟩, rets 3 (by kernel_rfl)⟩)
  · (
      (run_tac gR 50 5937350428880732466281198738948119373594830831616)
      (refine gp [0, 1, 2, 4, 5, 6] 7 [0] 1 (by kernel_rfl) ?_; intro ns6 ts6 Gs6 s6)
      refine koG 4 (hJ ⟨0, n + 3, n + 2, n + 1, .ref c, pA, pAD, as, G, sStrGq⟩ (fqual (headG (‹Cf› : Cf).gl)) (joTok (codeOf (‹Cf› : Cf).t))) (by kernel_rfl) (tups_up 2 hP (by kernel_rfl)) ?_
      rintro r H' ⟨l, ys, h⟩
      (apply Rets.elim h; intro k a J)
      intro n5 t5 G5 s
      (run_tac gR 2 0)
      (refine gp [1, 2, 3] 4 [] 0 (by kernel_rfl) ?_; intro ns8 ts8 Gs8 s8; refine ke (by kernel_rfl) ?_)
      exact ⟨_, .inr ⟨c, rfl⟩, rets 3 (by kernel_rfl)⟩)
  run_tac sq
set_option maxHeartbeats 0 in
theorem pop_t (hPc : PcOk (cx w b1 b2 h₀ d os hk hN)) (hPA : PopA (cx w b1 b2 h₀ d os hk hN)) : PopOk (cx w b1 b2 h₀ d os hk hN) := by
  run_tac sq0
  intro pA pAD as al h7
  refine sp_of fun p T GT J hP n t G => ?_
  intro s
  (run_tac gR 32 257870231184749559569483291699764789248)
  (refine gp [1, 2, 0] 3 [] 0 (by kernel_rfl) ?_; intro ns2 ts2 Gs2 s2; refine kc 2 (hPc pA pAD (as ++ [al]) (by simp; (run_tac om))) (by kernel_rfl) ?_ ?_)
  · trivial
  intro r H' h
  (apply Rets.elim h; intro k aa J)
  intro np tp Gp s
  (run_tac gR 6 1)
  refine gs (decide (((as ++ [al]).length : Int) = 0)) (by kernel_rfl) (fun hb => ?_) (fun hb => ?_)
  · exact absurd (of_decide_eq_true hb) (by simp; (run_tac om))
  · intro s
    refine gone rfl fun S hS J => ?_
    simp only [List.mem_cons, List.not_mem_nil, or_false] at hS
    rcases hS with rfl | rfl | rfl <;> (
      (run_tac gR 11 0)
      (run_tac Mine.gxT 0)
      intro z _
      cases z with
      | isTrue h => exact (bne_iff_ne.mp h (by kernel_rfl)).elim
      | isFalse h =>
        intro s
        (run_tac gR 55 298837758839500800746929935756110004041789666712365563907)
        (refine gp [2, 0, 3, 4] 5 [] 0 (by kernel_rfl) ?_; intro ns7 ts7 Gs7 s7; refine ko 1 (hPA pA pAD as al h7) (by kernel_rfl) ?_ ?_)
        · trivial
        intro r H' h
        (apply Rets.elim h; intro k aa J)
        intro n3 t3 G3 s
        (run_tac gR 2 0)
        (refine gp [0, 2] 4 [] 0 (by kernel_rfl) ?_; intro ns10 ts10 Gs10 s10)
        refine ke (by kernel_rfl) ?_
        exact rets 2 (by kernel_rfl))
  run_tac sq
set_option maxHeartbeats 0 in
theorem reset_t (hSi : SiOk (cx w b1 b2 h₀ d os hk hN)) {pA pAD : Nat} {as : List Addr} {al : Addr} (h7 : as.length ≤ 900) :
    ∀ B, okB [[0, 0, 1, 0, 3]] B = true → Sp (cx w b1 b2 h₀ d os hk hN) (.call (.ref 160) ⟨[.ref (pA + 281)], []⟩) B (lstV pA pAD (as ++ [al])) noP (fun T GT r H => Rets .none (lstV pA pAD []) T GT r H) := by
  run_tac sq0
  refine sp_of fun p T GT J hP n t G => ?_
  intro s
  (run_tac gR 45 21778072781333704125033551782145920335872)
  refine gne 1 3 (n + 282) (pA + 281) rfl (by kernel_rfl) (by kernel_rfl) fun hne => ?_
  (refine gp [3, 0, 1, 2, 4] 5 [] 0 (by kernel_rfl) ?_; intro ns2 ts2 Gs2 s2; refine ko 3 (hSi pA pAD (n + 1) (n + 2) (as ++ [al]) [] .none 0 (.inl ⟨rfl, rfl⟩) (Nat.zero_le _) (by simp; (run_tac om)) (fun e => hne ((show n + 282 = n + 1 + 281 by (run_tac om)).trans e.symm))) (by kernel_rfl) ?_ ?_)
  · trivial
  intro r H' h
  (apply Rets.elim h; intro k aa J)
  intro n1 t1 G1 s
  (run_tac gR 31 989005152967793199102664055455810)
  (refine gp [0, 2] 3 [] 0 (by kernel_rfl) ?_; intro ns5 ts5 Gs5 s5)
  refine ke (by kernel_rfl) ?_
  exact rets 2 (by kernel_rfl)
  run_tac sq
set_option maxHeartbeats 0 in
theorem appL_t : AppL (cx w b1 b2 h₀ d os hk hN) := by
  run_tac sq0
  intro a xs v hx
  refine sp_of fun p T GT J hP n t G => ?_
  intro s
  (run_tac gR 3 4161)
  (run_tac Mine.gxT 0)
  intro y' he
  obtain rfl : y' = none := by rw [← he]; exact past_concat (xs := xs) hx
  intro s
  refine gview 0 ⟨.t "list", none, .seqV (xs ++ [v])⟩ ⟨.t "list", none, .seqV (PySem.W.R.concatR xs v)⟩ (by kernel_rfl) (by rw [concatR_app]) fun jv J => ?_
  intro s
  (run_tac gR 0 0)
  (refine gp [0] 1 [] 0 (by kernel_rfl) ?_; intro ns3 ts3 Gs3 s3)
  refine ke (by kernel_rfl) ?_
  exact rets 1 (by kernel_rfl)
  run_tac sq
theorem pop_last (as : List Addr) (x : Addr) : ((seqIndex? (-1) (⟨(as ++ [x]).map PySem.Value.ref⟩ : Array PySem.Value).size).bind fun k => (⟨(as ++ [x]).map PySem.Value.ref⟩ : Array PySem.Value)[k]?.map fun v => (k, v)) = some (as.length, .ref x) := by
  have e : (⟨(as ++ [x]).map PySem.Value.ref⟩ : Array PySem.Value).size = as.length + 1 := by simp
  have e2 : seqIndex? (-1) (as.length + 1) = some as.length := by
    unfold seqIndex?
    simp
    (run_tac om)
  rw [e, e2]
  simp
theorem past_small' {ep : Nat} {xs : Array PySem.Value} (h : xs.size ≤ 1000) : (PySem.Data.seq xs ep).pastItsLine = none := past_small (xs := xs.toList) h
theorem pop_rest (as : List Addr) (x : Addr) : ((⟨(as ++ [x]).map PySem.Value.ref⟩ : Array PySem.Value).eraseIdxIfInBounds as.length).toList = as.map .ref := by
  rw [Array.eraseIdxIfInBounds, dif_pos (by simp), Array.toList_eraseIdx]
  simp [List.eraseIdx_append_of_length_le]
set_option maxHeartbeats 0 in
theorem popA_t : PopA (cx w b1 b2 h₀ d os hk hN) := by
  run_tac sq0
  (
  intro a ad as x h7
  refine sp_of fun p T GT J hP n t G => ?_
  intro s
  (run_tac gR 1 1)
  (run_tac Mine.gxT 0)
  intro z _
  cases z with
  | isTrue h => exact absurd h (by simp)
  | isFalse h =>
    intro s
    (run_tac gR 0 0)
    (run_tac Mine.gxT 0)
    intro z hz
    obtain rfl : z = some (as.length, .ref x) := by rw [← hz]; exact pop_last as x
    intro s
    (run_tac gR 3 4161)
    refine gview 0 ⟨.r 178, some (ad + 281), .seqV (as.map .ref)⟩ ⟨.r 178, some (ad + 281), .seqV ((⟨(as ++ [x]).map PySem.Value.ref⟩ : Array PySem.Value).eraseIdxIfInBounds as.length).toList⟩ (by kernel_rfl) (by rw [pop_rest]) fun jv J => ?_
    intro s
    (run_tac gR 0 0)
    (run_tac Mine.gxT 0)
    intro y' he
    obtain rfl : y' = none := by rw [← he]; exact past_small' (xs := (⟨(as ++ [x]).map PySem.Value.ref⟩ : Array PySem.Value).eraseIdxIfInBounds as.length) (by rw [← Array.length_toList, pop_rest, List.length_map]; (run_tac om))
    intro s
    (run_tac gR 0 0)
    (refine gp [0] 1 [] 0 (by kernel_rfl) ?_; intro ns12 ts12 Gs12 s12)
    refine ke (by kernel_rfl) ?_
    exact rets 1 (by kernel_rfl)
  )
  run_tac sq
set_option maxHeartbeats 0 in
theorem pc_t : PcOk (cx w b1 b2 h₀ d os hk hN) := by
  run_tac sq0
  intro pA pAD as hl
  refine sp_of fun p T GT J hP n t G => ?_
  intro s
  refine gone rfl fun S hS J => ?_
  simp only [List.mem_cons, List.not_mem_nil, or_false] at hS
  rcases hS with rfl | rfl | rfl | rfl | rfl | rfl | rfl <;> (
    (run_tac gR 21 17039360)
    (run_tac Mine.gxT 0)
    intro z _
    cases z with
    | isTrue h => exact (bne_iff_ne.mp h (by kernel_rfl)).elim
    | isFalse h =>
      intro s
      (run_tac gR 54 1502515093930823397856228258424322861504039823343617)
      refine gint (by kernel_rfl) fun i hi => ?_
      have hi2 : i = ((as.map PySem.Value.ref).length : Int) := hi.trans (by kernel_rfl)
      obtain rfl : i = (as.length : Int) := by rw [hi2, List.length_map]
      intro s
      (refine gp [3, 4] 5 [] 0 (by kernel_rfl) ?_; intro ns3 ts3 Gs3 s3)
      refine ke (by kernel_rfl) ?_
      exact rets 2 (by kernel_rfl))
  run_tac sq
set_option maxHeartbeats 0 in
theorem ai_t : AiOk (cx w b1 b2 h₀ d os hk hN) := by
  run_tac sq0
  intro pA pAD args ha
  refine sp_of fun p T GT J hP n t G => ?_
  rcases ha with rfl | ⟨k, rfl⟩ <;> intro s <;> (
    refine gone rfl fun S hS J => ?_
    simp only [List.mem_cons, List.not_mem_nil, or_false] at hS
    rcases hS with rfl | rfl | rfl <;> (
      (run_tac gR 55 4670444787187720804346420766959617775710743805189685248)
      (run_tac Mine.gxT 0)
      intro z _
      cases z with
      | isTrue h => exact (bne_iff_ne.mp h (by kernel_rfl)).elim
      | isFalse h =>
        intro s
        (run_tac gR 56 398546124111529152050215479976535706387709847002696384513)
        (refine gp [3, 4] 5 [] 0 (by kernel_rfl) ?_; intro ns3 ts3 Gs3 s3)
        refine ke (by kernel_rfl) ?_
        exact rets 2 (by kernel_rfl)))
  run_tac sq
set_option maxHeartbeats 0 in
theorem si_t : SiOk (cx w b1 b2 h₀ d os hk hN) := by
  run_tac sq0
  intro pA pAD pY pS as ys lo k hlo hkx hl hne
  refine sp_of fun p T GT J hP n t G => ?_
  intro s
  rcases hlo with ⟨rfl, rfl⟩ | rfl
  · (run_tac gR 5 34087042)
    (run_tac Mine.gxT 0)
    intro z _
    cases z with
    | isTrue h => exact (noSame h rfl rfl (Ne.symm hne)).elim
    | isFalse h =>
      intro s
      (run_tac gR 4 4291)
      (run_tac Mine.gxT 0)
      intro z _
      cases z with
      | isTrue h => exact (long_no h (by rw [List.length_map]; (run_tac om))).elim
      | isFalse h =>
        intro s
        (run_tac gR 2 65)
        refine gview 0 ⟨.r 178, some (pAD + 281), .seqV ys⟩ ⟨.r 178, some (pAD + 281), .seqV (newT (as.map .ref) ys (slA none (⟨as.map .ref⟩ : Array PySem.Value).size).toNat (max (slA none (⟨as.map .ref⟩ : Array PySem.Value).size) (if (1 : Int) > 0 then ((⟨as.map .ref⟩ : Array PySem.Value).size : Int) else -1)).toNat)⟩ (by kernel_rfl) ?_ fun jv J => ?_
        · rw [newT_eq _ _ (k := 0) (by simp [slA]) (by simp [slA])]
          simp
        intro s
        (run_tac gR 1 1)
        (run_tac Mine.gxT 0)
        intro y' he
        obtain rfl : y' = none := by rw [← he]; exact past_small (xs := ys) (by (run_tac om))
        intro s
        (run_tac gR 0 0)
        (run_tac Mine.gxT 50)
        intro z hz
        obtain ⟨zs, rfl⟩ := removed hz
        clear hz
        induction zs with
        | nil =>
          intro s
          (run_tac gR 0 0)
          (refine gp [0] 3 [] 0 (by kernel_rfl) ?_; intro ns7 ts7 Gs7 s7)
          refine ke (by kernel_rfl) ?_
          exact rets 1 (by kernel_rfl)
        | cons a l ih =>
          cases l with
          | nil =>
            intro s
            (run_tac gR 1 0)
            exact geq ih (by kernel_rfl)
          | cons b l =>
            intro s
            (run_tac gR 1 0)
            exact geq ih (by kernel_rfl)
  · (run_tac gR 5 34087042)
    (run_tac Mine.gxT 0)
    intro z _
    cases z with
    | isTrue h => exact (noSame h rfl rfl (Ne.symm hne)).elim
    | isFalse h =>
      intro s
      (run_tac gR 4 4291)
      (run_tac Mine.gxT 0)
      intro z _
      cases z with
      | isTrue h => exact (long_no h (by rw [List.length_map]; (run_tac om))).elim
      | isFalse h =>
        intro s
        (run_tac gR 2 65)
        refine gview 0 ⟨.r 178, some (pAD + 281), .seqV ((as.take k).map .ref ++ ys)⟩ ⟨.r 178, some (pAD + 281), .seqV (newT (as.map .ref) ys (slA (some (k : Int)) (⟨as.map .ref⟩ : Array PySem.Value).size).toNat (max (slA (some (k : Int)) (⟨as.map .ref⟩ : Array PySem.Value).size) (if (1 : Int) > 0 then ((⟨as.map .ref⟩ : Array PySem.Value).size : Int) else -1)).toNat)⟩ (by kernel_rfl) ?_ fun jv J => ?_
        · rw [newT_eq _ _ (k := k) (slA_at (by rw [List.length_map]; exact hkx)) (slB_at _ _)]
          rw [List.map_take]
        intro s
        (run_tac gR 1 1)
        (run_tac Mine.gxT 0)
        intro y' he
        obtain rfl : y' = none := by rw [← he]; exact past_small (xs := (as.take k).map .ref ++ ys) (by rw [List.length_append, List.length_map, List.length_take]; (run_tac om))
        intro s
        (run_tac gR 0 0)
        (run_tac Mine.gxT 50)
        intro z hz
        obtain ⟨zs, rfl⟩ := removed hz
        clear hz
        induction zs with
        | nil =>
          intro s
          (run_tac gR 0 0)
          (refine gp [0] 3 [] 0 (by kernel_rfl) ?_; intro ns16 ts16 Gs16 s16)
          refine ke (by kernel_rfl) ?_
          exact rets 1 (by kernel_rfl)
        | cons a l ih =>
          cases l with
          | nil =>
            intro s
            (run_tac gR 1 0)
            exact geq ih (by kernel_rfl)
          | cons b l =>
            intro s
            (run_tac gR 1 0)
            exact geq ih (by kernel_rfl)
  run_tac sq
set_option maxHeartbeats 0 in
theorem gi_t : GiOk (cx w b1 b2 h₀ d os hk hN) := by
  run_tac sq0
  (
  intro pA pAD pS as k hkx hl
  refine sp_of fun p T GT J hP n t G => ?_
  intro s
  (run_tac gR 6 1107828866)
  (run_tac Mine.gxT 0)
  intro z _
  cases z with
  | isTrue h =>
    exfalso
    have h' : sizeLine < (gsT (as.map .ref) (slA (some (k : Int)) (⟨as.map .ref⟩ : Array PySem.Value).size) (if (1 : Int) > 0 then ((⟨as.map .ref⟩ : Array PySem.Value).size : Int) else -1)).length := h
    rw [gsT_eq (by rw [List.length_map]; exact hkx), List.length_drop, List.length_map, sizeLine_eq] at h'
    (run_tac om)
  | isFalse h =>
    intro s
    (run_tac gR 1 0)
    refine gview 0 ⟨.t "list", none, .seqV ((as.drop k).map .ref)⟩ ⟨.t "list", none, .seqV (gsT (as.map .ref) (slA (some (k : Int)) (⟨as.map .ref⟩ : Array PySem.Value).size) (if (1 : Int) > 0 then ((⟨as.map .ref⟩ : Array PySem.Value).size : Int) else -1))⟩ (by kernel_rfl) ?_ fun jv J => ?_
    · rw [gsT_eq (by rw [List.length_map]; exact hkx), List.map_drop]
    intro s
    (run_tac gR 0 0)
    (refine gp [0, 1] 3 [] 0 (by kernel_rfl) ?_; intro ns4 ts4 Gs4 s4)
    refine ke (by kernel_rfl) ?_
    exact ⟨n, rets 2 (by kernel_rfl)⟩
  )
  run_tac sq
set_option maxHeartbeats 0 in
theorem lga_t : LGA (cx w b1 b2 h₀ d os hk hN) := by
  run_tac sq0
  (
  intro p1 pd k i tk xs v hi hv hl
  refine sp_of fun p T GT J hP n t G => ?_
  intro s
  (run_tac gR 0 0)
  (run_tac Mine.gxT 0)
  intro z _
  cases z with
  | isTrue h => exact absurd ((fits_no' hi (by have := (List.getElem?_eq_some_iff.mp hv).1; (run_tac om))).symm.trans h) (by decide)
  | isFalse h =>
  intro s
  (run_tac gR 0 0)
  (run_tac Mine.gxT 50)
  intro y hy
  obtain rfl : y = (k : Int) := by rw [← hy]; exact hi
  intro s
  (run_tac gR 1 1)
  (run_tac Mine.gxT 0)
  intro z hz
  obtain rfl : z = some (k, v) := by rw [← hz]; simp [hv]
  intro s
  (run_tac gR 0 0)
  (refine gp [0] 1 [] 0 (by kernel_rfl) ?_; intro ns5 ts5 Gs5 s5)
  refine ke (by kernel_rfl) ?_
  exact rets 1 (by kernel_rfl)
  )
  run_tac sq
set_option maxHeartbeats 0 in
theorem rnd_t : RNd (cx w b1 b2 h₀ d os hk hN) := by
  run_tac sq0
  intro pI i j f hj
  refine sp_of fun p T GT J hP n t G => ?_
  intro s
  (run_tac gR 8 69810262081)
  refine gview 0 ⟨.t "range_iterator", none, .fields [.i j, .i (f : Int), .i (-1)]⟩ ⟨.t "range_iterator", none, .fields [.i (i + -1), .i (((f + 1 : Nat) : Int) - 1), .i (-1)]⟩ (by kernel_rfl) (by rw [hj, show (((f + 1 : Nat) : Int) - 1) = (f : Int) by (run_tac om), show i + -1 = i - 1 by (run_tac om)]) fun jv J => ?_
  intro s
  (refine gp [0] 1 [] 0 (by kernel_rfl) ?_; intro ns7 ts7 Gs7 s7)
  refine ke (by kernel_rfl) ?_
  exact rets 1 (by kernel_rfl)
  run_tac sq
theorem ascii_sp {sp : Nat} (h : sp = 32 ∨ sp = 120 ∨ sp = 92) : (if (true && (⟨#[sp]⟩ : Str).cps.all (· < 128)) then "str_ascii_iterator" else "str_iterator") = "str_ascii_iterator" := by
  rcases h with rfl | rfl | rfl <;> decide +kernel
set_option maxHeartbeats 0 in
theorem ac_x {a : FB} (hsp : a.sp = 32 ∨ a.sp = 120 ∨ a.sp = 92) {as : List Addr} {ps : List (Str × Str)} {lines tb1 tb2 : List PySem.Value} {ls : List Str} (hls : lines.map vv = ls.map VV.s) {x y : Str} {k1 k2 : Tok} (hps : smallP (ps ++ [(x, y)])) (h7 : as.length ≤ 400) (hlc : lines.length ≤ 500) (ht1 : lenT tb1) (ht2 : strT tb2) (hL : LenOk (cx w b1 b2 h₀ d os hk hN)) (hS : StrOk (cx w b1 b2 h₀ d os hk hN)) (hPc : PcOk (cx w b1 b2 h₀ d os hk hN)) (hIn : ∀ i, InBOk (cx w b1 b2 h₀ d os hk hN) (W2 w b1 b2).params i) (hGi : GiOk (cx w b1 b2 h₀ d os hk hN)) (hSi : SiOk (cx w b1 b2 h₀ d os hk hN)) (hPp : PopOk (cx w b1 b2 h₀ d os hk hN)) :
    ∀ B, okB acShapes B = true → Sp (cx w b1 b2 h₀ d os hk hN) (.call (.ref 91) ⟨[.ref (a.pF + 281), .str x k1, .str y k2], []⟩) B (a.vs as lines tb1 tb2) (fun T => Tups T as ps) (acBQ a (appB a.W a.sp ls ps (x, y))) := by
  run_tac sq0
  obtain ⟨pF, pFD, pL, pA, pAD, W, sp⟩ := a
  dsimp only at hsp
  refine sp_of fun p T GT J hP n t G => ?_
  intro s
  (
    (run_tac gR 113 756094027487390928453722511807844952434272574603397958272310558888710574679958121502063852637936551372493336515896188263105504185109708800)
    (run_tac Mine.gxT 0)
    intro y' he
    obtain rfl : y' = none := by rw [← he]; exact past_concat (by rw [List.length_map]; (run_tac om))
    intro s
    (run_tac gR 35 5125893436700663326056132608)
    refine gview 3 ⟨.r 178, some (pAD + 281), .seqV ((as ++ [n + 283]).map .ref)⟩ ⟨.r 178, some (pAD + 281), .seqV (PySem.W.R.concatR (as.map PySem.Value.ref) (.ref (n + 283)))⟩ (by kernel_rfl) (by rw [concat_refs]) fun jv J => ?_
    intro s
    (refine gp [3, 4, 5, 0, 2, 6, 7, 8, 9] 10 [] 0 (by kernel_rfl) ?_; intro ns3 ts3 Gs3 s3; refine kc 3 (hL pA pAD (as ++ [n + 283]) (ps ++ [(x, y)]) tb1 hps ht1) (by kernel_rfl) ?_ ?_)
    · exact tups_snoc (k := k1) (j := k2) (o := { cls := .type "tuple", data := .seq #[.str x k1, .str y k2] 0 }) (tups_up 6 hP (by kernel_rfl)) (dropC_mem (j := 0) (by kernel_rfl)) ⟨_, rfl⟩
    rintro r H' ⟨tb1', ht1', h⟩
    obtain ⟨i, hi⟩ : ∃ i : Int, i = (sizeOf2 (ps ++ [(x, y)]) : Int) := ⟨_, rfl⟩
    rw [← hi] at h
    (apply Rets.elim h; intro k aa J)
    intro n2 t2 G2 s
    (run_tac gR 1 0)
    (run_tac Mine.gxT 0)
    intro z _
    cases z with
    | isTrue h => exact absurd h (by (run_tac om))
    | isFalse h =>
      intro s
      (run_tac gR 0 0)
      (run_tac Mine.gxT 0)
      intro z _
      cases z with
      | isTrue h => exact absurd h (by have := size_small hps; (run_tac om))
      | isFalse h =>
        intro s
        (run_tac gR 26 340020925189752166023749)
        refine gs (decide (W < i)) (by kernel_rfl) (fun hb => ?_) (fun hb => ?_)
        · have hb := of_decide_eq_true hb
          intro s
          (run_tac gR 27 340020925189752166023749)
          refine gview 0 ⟨.t "str_ascii_iterator", none, .fields [.s ⟨#[sp]⟩, .i 0]⟩ ⟨.t (if (true && (⟨#[sp]⟩ : Str).cps.all (· < 128)) then "str_ascii_iterator" else "str_iterator"), none, .fields [.s ⟨#[sp]⟩, .i 0]⟩ (by kernel_rfl) (by rw [ascii_sp hsp]) fun jv J => ?_
          intro s
          (run_tac gR 62 83683674455639054992666398675196329564209351105040180226624758516813889)
          (refine gp [1, 2, 0, 3, 4, 5, 6, 7, 8, 9] 10 [] 0 (by kernel_rfl) ?_; intro ns10 ts10 Gs10 s10; refine kc 2 (hPc pA pAD (as ++ [n + 283]) (by simp; (run_tac om))) (by kernel_rfl) ?_ ?_)
          · trivial
          intro r H' h
          (apply Rets.elim h; intro k aa J)
          intro np tp Gp s
          obtain ⟨c, hc⟩ : ∃ c : Nat, as.length = c := ⟨_, rfl⟩
          have hcp : c = ps.length := by rw [← hc]; exact hP.lens
          obtain ⟨m, hm⟩ : ∃ m : Int, m = ((as ++ [n + 283]).length : Int) := ⟨_, rfl⟩
          have hm1 : 1 ≤ m := by rw [hm]; simp; (run_tac om)
          have hm2 : m ≤ 2000 := by rw [hm]; simp; (run_tac om)
          have hmc : m = (c : Int) + 1 := by rw [hm, List.length_append, hc]; rfl
          (run_tac gR 40 1171221845949812801)
          (run_tac Mine.gxT 0)
          intro z _
          cases z with
          | isTrue h => exact absurd (h.symm.trans (show _ = false from by rw [← hm]; exact range_small hm1 hm2)) Bool.noConfusion
          | isFalse h =>
            intro s
            (run_tac gR 2 0)
            refine gview 0 ⟨.t "range_iterator", none, .fields [.i (c : Int), .i (c : Int), .i (-1)]⟩ (rngIt ((as ++ [n + 283]).length : Int)) (by kernel_rfl) (by rw [← hm, range_is hm1 hm2, hmc, Int.add_sub_cancel]) fun jv J => ?_
            intro s
            (run_tac gR 1 1)
            (refine gp [0, 7, 2, 3, 5, 8, 9, 10, 11, 4, 6] 12 [] 0 (by kernel_rfl) ?_; intro ns15 ts15 Gs15 s15; refine kc 9 ((hIn c) ⟨pF, pFD, pL, pA, pAD, W, sp⟩ n (np + 1) (as ++ [n + 283]) (ps ++ [(x, y)]) lines tb1' tb2 x y [] hsp (.inl rfl) (by rw [List.length_append, hcp]; simp) hps) (by kernel_rfl) ?_ ?_)
            · exact tups_snoc (k := k1) (j := k2) (o := { cls := .type "tuple", data := .seq #[.str x k1, .str y k2] 0 }) (tups_up 2 hP (by kernel_rfl)) (dropC_mem (j := 1) (by kernel_rfl)) ⟨_, rfl⟩
            intro r H' h
            rw [hcp] at h
            rcases hbp : lastBp sp (ps ++ [(x, y)]) ps.length with _ | j
            · rw [show lastBp (FB.sp ⟨pF, pFD, pL, pA, pAD, W, sp⟩) (ps ++ [(x, y)]) ps.length = none from hbp] at h
              obtain ⟨f2, loc2, hl2, h⟩ := h
              (apply Flows.elim h; intro J)
              intro n3 t3 G3 s
              rcases hl2 with rfl | ⟨i2, s2, rfl⟩ <;> (
                (run_tac gR 57 130161981586474790084728760365883404991741571128545972043682377)
                (refine gp [3, 4, 2, 5, 6, 7, 8, 9, 11] 12 [] 0 (by kernel_rfl) ?_; intro ns18 ts18 Gs18 s18; refine kc 2 (hPp pA pAD as (n + 283) (by (run_tac om))) (by kernel_rfl) ?_ ?_)
                · trivial
                intro r H' h
                (apply Rets.elim h; intro k aa J)
                intro n5 t5 G5 s
                (run_tac gR 207 605627640196869307592563526396881427216209370042210882534389315108258665836479988034545506130406290770045118443281597893137205832208472434221823222606039329668144219194904753679931083174644073312523443353816410300741321184338556260937)
                (run_tac Mine.gxT 0)
                intro y' he
                obtain rfl : y' = none := by rw [← he]; exact past_concat (by rw [List.length_map]; (run_tac om))
                intro s
                refine gview 5 ⟨.r 178, some (pAD + 281), .seqV ((as ++ [n5 + 285]).map .ref)⟩ ⟨.r 178, some (pAD + 281), .seqV (PySem.W.R.concatR (as.map PySem.Value.ref) (.ref (n5 + 285)))⟩ (by kernel_rfl) (by rw [concat_refs]) fun jv J => ?_
                intro s
                (run_tac gR 6 0)
                (refine gp [5, 6, 8, 9, 10, 11, 12, 0] 14 [] 0 (by kernel_rfl) ?_; intro ns22 ts22 Gs22 s22)
                refine gtail 7 (n5 + 285, { cls := .type "tuple", data := .seq #[.str x k1, .str y k2] 0 }) T (by kernel_rfl) fun n9 t9 G9 => ?_
                intro s
                refine ke (by kernel_rfl) ?_
                rw [appB_none (by rw [← hi]; exact hb) hbp]
                exact ⟨as ++ [n5 + 285], lines, tb1', tb2, [(n5 + 285, { cls := .type "tuple", data := .seq #[.str x k1, .str y k2] 0 })], ht1', ht2, tups_snoc (k := k1) (j := k2) (hP.sub fun _ h => List.mem_append_left _ h) (List.mem_append_right _ (List.mem_singleton.mpr rfl)) ⟨_, rfl⟩, hls, rets 7 (by kernel_rfl)⟩)
            · rw [show lastBp (FB.sp ⟨pF, pFD, pL, pA, pAD, W, sp⟩) (ps ++ [(x, y)]) ps.length = some j from hbp] at h
              obtain ⟨f2, oth, ho, h⟩ := h
              (apply Flows.elim h; intro J)
              intro n3 t3 G3 s
              have hj := lastBp_le hbp
              rcases ho with rfl | ⟨s2, rfl⟩
              · (run_tac gR 79 33374799426042832928688110461783945410991235024142305518688041581208879214621330528757211988481)
                (refine gp [3, 0, 1, 2, 4, 5, 6, 7, 8, 9, 11] 12 [] 0 (by kernel_rfl) ?_; intro ns30 ts30 Gs30 s30; refine ko 2 (hGi pA pAD (n3 + 1) (as ++ [n + 283]) j (by rw [List.length_append, hc, hcp]; simp; (run_tac om)) (by rw [List.length_append]; simp; (run_tac om))) (by kernel_rfl) ?_ ?_)
                · trivial
                rintro r H' ⟨l, h⟩
                (apply Rets.elim h; intro k aa J)
                intro n5 t5 G5 s
                (run_tac gR 27 295147922775902007488)
                refine gne 1 3 (n5 + 281) (pA + 281) rfl (by kernel_rfl) (by kernel_rfl) fun hne => ?_
                (refine gp [3, 0, 1, 2, 4, 5, 6, 7, 8, 9, 10, 11, 12] 13 [] 0 (by kernel_rfl) ?_; intro ns33 ts33 Gs33 s33; refine ko 3 (hSi pA pAD n5 (n5 + 1) (as ++ [n + 283]) [] (.i (j : Int)) j (.inr rfl) (by rw [List.length_append, hc, hcp]; simp; (run_tac om)) (by rw [List.length_append]; simp; (run_tac om)) (fun e => hne e.symm)) (by kernel_rfl) ?_ ?_)
                · trivial
                intro r H' h
                rw [List.append_nil] at h
                (apply Rets.elim h; intro k aa J)
                intro n6 t6 G6 s
                (run_tac gR 74 6754800287919682545833060956031882338658085481065278189079568072707)
                (refine gp [0, 4, 6, 1, 3, 5, 7, 8, 9, 10] 11 [] 0 (by kernel_rfl) ?_; intro ns36 ts36 Gs36 s36; refine kc 3 (hS pA pAD ((as ++ [n + 283]).take j) ((ps ++ [(x, y)]).take j) tb2 ⟨Nat.le_trans (List.take_sublist j _).length_le hps.1, fun q hq => hps.2 q (List.mem_of_mem_take hq)⟩ ht2) (by kernel_rfl) ?_ ?_)
                · exact (tups_snoc (k := k1) (j := k2) (o := { cls := .type "tuple", data := .seq #[.str x k1, .str y k2] 0 }) (tups_up 7 hP (by kernel_rfl)) (dropC_mem (j := 6) (by kernel_rfl)) ⟨_, rfl⟩).take j
                rintro r H' ⟨tb2', ht2', h⟩
                (apply Rets.elim h; intro k aa J)
                intro n7 t7 G7 s
                (run_tac gR 13 1864135)
                (run_tac Mine.gxT 0)
                intro y' he
                obtain rfl : y' = none := by rw [← he]; exact past_concat (xs := lines) (by (run_tac om))
                intro s
                (run_tac gR 3 0)
                refine gview 6 ⟨.t "list", none, .seqV (lines ++ [.str (allS ((ps ++ [(x, y)]).take j)) k])⟩ ⟨.t "list", none, .seqV (PySem.W.R.concatR lines (unvv (VV.s (allS ((ps ++ [(x, y)]).take j))) k aa))⟩ (by kernel_rfl) (by rw [concatR_app]; simp [unvv]) fun jv J => ?_
                intro s
                (run_tac gR 76 95486067083488662435928452497547923444955228395848014064352354190700388635876838118261317)
                refine gne 2 5 (pA + 281) (l + 281) rfl (by kernel_rfl) (by kernel_rfl) fun hne => ?_
                (refine gp [2, 0, 5, 1, 3, 4, 6, 7, 8, 9, 10, 11] 12 [] 0 (by kernel_rfl) ?_; intro ns41 ts41 Gs41 s41; refine ko 3 (hSi pA pAD l (n7 + 1) ((as ++ [n + 283]).take j) (((as ++ [n + 283]).drop j).map .ref) .none 0 (.inl ⟨rfl, rfl⟩) (Nat.zero_le _) (by simp; (run_tac om)) hne) (by kernel_rfl) ?_ ?_)
                · trivial
                intro r H' h
                rw [List.take_zero, List.map_nil, List.nil_append] at h
                (apply Rets.elim h; intro kk aa2 J)
                intro n8 t8 G8 s
                (run_tac gR 33 989005152967793199102664055455810)
                (refine gp [0, 2, 5, 3, 6, 7, 8, 9] 10 [] 0 (by kernel_rfl) ?_; intro ns44 ts44 Gs44 s44)
                refine gtail 7 (n + 283, { cls := .type "tuple", data := .seq #[.str x k1, .str y k2] 0 }) T (by kernel_rfl) fun n9 t9 G9 => ?_
                intro s
                refine ke (by kernel_rfl) ?_
                have hT9 : Tups (T ++ [(n + 283, { cls := .type "tuple", data := .seq #[.str x k1, .str y k2] 0 })]) (as ++ [n + 283]) (ps ++ [(x, y)]) := tups_snoc (k := k1) (j := k2) (hP.sub fun _ h => List.mem_append_left _ h) (List.mem_append_right _ (List.mem_singleton.mpr rfl)) ⟨_, rfl⟩
                rw [appB_some (by rw [← hi]; exact hb) hbp]
                exact ⟨(as ++ [n + 283]).drop j, lines ++ [.str (allS ((ps ++ [(x, y)]).take j)) k], tb1', tb2', [(n + 283, { cls := .type "tuple", data := .seq #[.str x k1, .str y k2] 0 })], ht1', ht2', hT9.drop j, by simp [hls, vv], rets 7 (by kernel_rfl)⟩
              · (run_tac gR 79 33374799426042832928688110461783945410991235024142305518688041581208879214621330528757211988481)
                (refine gp [3, 0, 1, 2, 4, 5, 6, 7, 8, 9, 11] 12 [] 0 (by kernel_rfl) ?_; intro ns46 ts46 Gs46 s46; refine ko 2 (hGi pA pAD (n3 + 1) (as ++ [n + 283]) j (by rw [List.length_append, hc, hcp]; simp; (run_tac om)) (by rw [List.length_append]; simp; (run_tac om))) (by kernel_rfl) ?_ ?_)
                · trivial
                rintro r H' ⟨l, h⟩
                (apply Rets.elim h; intro k aa J)
                intro n5 t5 G5 s
                (run_tac gR 27 295147922775902007488)
                refine gne 1 3 (n5 + 281) (pA + 281) rfl (by kernel_rfl) (by kernel_rfl) fun hne => ?_
                (refine gp [3, 0, 1, 2, 4, 5, 6, 7, 8, 9, 10, 11, 12] 13 [] 0 (by kernel_rfl) ?_; intro ns49 ts49 Gs49 s49; refine ko 3 (hSi pA pAD n5 (n5 + 1) (as ++ [n + 283]) [] (.i (j : Int)) j (.inr rfl) (by rw [List.length_append, hc, hcp]; simp; (run_tac om)) (by rw [List.length_append]; simp; (run_tac om)) (fun e => hne e.symm)) (by kernel_rfl) ?_ ?_)
                · trivial
                intro r H' h
                rw [List.append_nil] at h
                (apply Rets.elim h; intro k aa J)
                intro n6 t6 G6 s
                (run_tac gR 74 6754800287919682545833060956031882338658085481065278189079568072707)
                (refine gp [0, 4, 6, 1, 3, 5, 7, 8, 9, 10] 11 [] 0 (by kernel_rfl) ?_; intro ns52 ts52 Gs52 s52; refine kc 3 (hS pA pAD ((as ++ [n + 283]).take j) ((ps ++ [(x, y)]).take j) tb2 ⟨Nat.le_trans (List.take_sublist j _).length_le hps.1, fun q hq => hps.2 q (List.mem_of_mem_take hq)⟩ ht2) (by kernel_rfl) ?_ ?_)
                · exact (tups_snoc (k := k1) (j := k2) (o := { cls := .type "tuple", data := .seq #[.str x k1, .str y k2] 0 }) (tups_up 7 hP (by kernel_rfl)) (dropC_mem (j := 6) (by kernel_rfl)) ⟨_, rfl⟩).take j
                rintro r H' ⟨tb2', ht2', h⟩
                (apply Rets.elim h; intro k aa J)
                intro n7 t7 G7 s
                (run_tac gR 13 1864135)
                (run_tac Mine.gxT 0)
                intro y' he
                obtain rfl : y' = none := by rw [← he]; exact past_concat (xs := lines) (by (run_tac om))
                intro s
                (run_tac gR 3 0)
                refine gview 6 ⟨.t "list", none, .seqV (lines ++ [.str (allS ((ps ++ [(x, y)]).take j)) k])⟩ ⟨.t "list", none, .seqV (PySem.W.R.concatR lines (unvv (VV.s (allS ((ps ++ [(x, y)]).take j))) k aa))⟩ (by kernel_rfl) (by rw [concatR_app]; simp [unvv]) fun jv J => ?_
                intro s
                (run_tac gR 76 95486067083488662435928452497547923444955228395848014064352354190700388635876838118261317)
                refine gne 2 5 (pA + 281) (l + 281) rfl (by kernel_rfl) (by kernel_rfl) fun hne => ?_
                (refine gp [2, 0, 5, 1, 3, 4, 6, 7, 8, 9, 10, 11] 12 [] 0 (by kernel_rfl) ?_; intro ns57 ts57 Gs57 s57; refine ko 3 (hSi pA pAD l (n7 + 1) ((as ++ [n + 283]).take j) (((as ++ [n + 283]).drop j).map .ref) .none 0 (.inl ⟨rfl, rfl⟩) (Nat.zero_le _) (by simp; (run_tac om)) hne) (by kernel_rfl) ?_ ?_)
                · trivial
                intro r H' h
                rw [List.take_zero, List.map_nil, List.nil_append] at h
                (apply Rets.elim h; intro kk aa2 J)
                intro n8 t8 G8 s
                (run_tac gR 33 989005152967793199102664055455810)
                (refine gp [0, 2, 5, 3, 6, 7, 8, 9] 10 [] 0 (by kernel_rfl) ?_; intro ns60 ts60 Gs60 s60)
                refine gtail 7 (n + 283, { cls := .type "tuple", data := .seq #[.str x k1, .str y k2] 0 }) T (by kernel_rfl) fun n9 t9 G9 => ?_
                intro s
                refine ke (by kernel_rfl) ?_
                have hT9 : Tups (T ++ [(n + 283, { cls := .type "tuple", data := .seq #[.str x k1, .str y k2] 0 })]) (as ++ [n + 283]) (ps ++ [(x, y)]) := tups_snoc (k := k1) (j := k2) (hP.sub fun _ h => List.mem_append_left _ h) (List.mem_append_right _ (List.mem_singleton.mpr rfl)) ⟨_, rfl⟩
                rw [appB_some (by rw [← hi]; exact hb) hbp]
                exact ⟨(as ++ [n + 283]).drop j, lines ++ [.str (allS ((ps ++ [(x, y)]).take j)) k], tb1', tb2', [(n + 283, { cls := .type "tuple", data := .seq #[.str x k1, .str y k2] 0 })], ht1', ht2', hT9.drop j, by simp [hls, vv], rets 7 (by kernel_rfl)⟩
        · have hb := of_decide_eq_false hb
          intro s
          (run_tac gR 1 0)
          (refine gp [0, 1, 2, 5, 6, 7, 8, 3] 9 [] 0 (by kernel_rfl) ?_; intro ns62 ts62 Gs62 s62)
          refine gtail 7 (n + 283, { cls := .type "tuple", data := .seq #[.str x k1, .str y k2] 0 }) T (by kernel_rfl) fun n9 t9 G9 => ?_
          intro s
          refine ke (by kernel_rfl) ?_
          rw [appB_same (by rw [← hi]; exact hb)]
          exact ⟨as ++ [n + 283], lines, tb1', tb2, [(n + 283, { cls := .type "tuple", data := .seq #[.str x k1, .str y k2] 0 })], ht1', ht2, tups_snoc (k := k1) (j := k2) (hP.sub fun _ h => List.mem_append_left _ h) (List.mem_append_right _ (List.mem_singleton.mpr rfl)) ⟨_, rfl⟩, hls, rets 7 (by kernel_rfl)⟩)
  run_tac sq
set_option maxHeartbeats 0 in
theorem inB_z : InBOk (cx w b1 b2 h₀ d os hk hN) (W2 w b1 b2).params 0 := by
  run_tac sq0
  intro a pFr pI as ps lines tb1 tb2 f y loc hsp hloc hi hps
  obtain ⟨pF, pFD, pL, pA, pAD, W, sp⟩ := a
  refine sp_of fun p T GT J hP n t G => ?_
  intro s
  obtain ⟨l0, hl0⟩ : ∃ l, l = loc := ⟨_, rfl⟩
  rcases hloc with rfl | ⟨i0, s0, rfl⟩
  · (run_tac gR 16 1090785345)
    (refine gp [3, 4, 5, 6, 7, 8, 9, 10] 11 [] 0 (by kernel_rfl) ?_; intro ns2 ts2 Gs2 s2)
    refine ke (by kernel_rfl) ?_
    exact ⟨f, [], .inl rfl, flows 8 (by kernel_rfl)⟩
  · (run_tac gR 16 1090785345)
    (refine gp [3, 4, 5, 6, 7, 8, 9, 10] 11 [] 0 (by kernel_rfl) ?_; intro ns4 ts4 Gs4 s4)
    refine ke (by kernel_rfl) ?_
    exact ⟨f, [(.s sI, .i i0), (.s sPrevpart, .s s0)], .inr ⟨_, _, rfl⟩, flows 8 (by kernel_rfl)⟩
  run_tac sq
theorem inB_all (hs : ∀ i, InBOk (cx w b1 b2 h₀ d os hk hN) (W2 w b1 b2).params i → InBOk (cx w b1 b2 h₀ d os hk hN) (W2 w b1 b2).params (i + 1)) : ∀ i, InBOk (cx w b1 b2 h₀ d os hk hN) (W2 w b1 b2).params i
  | 0 => inB_z
  | i + 1 => hs i (inB_all hs i)
theorem last_sign (pl : List Nat) (dd : Nat) : ((seqIndex? (-1) (⟨⟨pl.concat dd⟩⟩ : Str).length).bind fun x => (⟨⟨pl.concat dd⟩⟩ : Str).cps[x]?) = some dd := by
  have e : (⟨⟨pl.concat dd⟩⟩ : Str).length = pl.length + 1 := by simp [Str.length]
  have e2 : seqIndex? (-1) (pl.length + 1) = some pl.length := by
    unfold seqIndex?
    simp
    (run_tac om)
  rw [e, e2]
  simp
theorem lastBp_yes {sp i : Nat} {ps : List (Str × Str)} {q1 q2 : Str × Str} (h1 : ps[i]? = some q1) (h2 : ps[i + 1]? = some q2) (h : bpAt sp q1 q2 = true) : lastBp sp ps (i + 1) = some (i + 1) := by
  unfold lastBp
  rw [h1, h2]
  simp only [h, if_true]
theorem lastBp_no {sp i : Nat} {ps : List (Str × Str)} {q1 q2 : Str × Str} (h1 : ps[i]? = some q1) (h2 : ps[i + 1]? = some q2) (h : bpAt sp q1 q2 = false) : lastBp sp ps (i + 1) = lastBp sp ps i := by
  rw [lastBp, h1, h2]
  simp [h]
theorem bp_part {sp dd : Nat} {f : Str} {pl : List Nat} {q2 : Str × Str} (h : dd = sp) : bpAt sp (f, ⟨⟨pl.concat dd⟩⟩) q2 = true := by
  subst h
  unfold bpAt
  simp
theorem bp_blank {fl : List Nat} {y2 : Str} {q1 : Str × Str} : bpAt 32 q1 (⟨⟨32 :: fl⟩⟩, y2) = true := by
  unfold bpAt
  simp
theorem bp_no {sp : Nat} {q1 q2 : Str × Str} (h1 : q2.1.cps.toList.head? ≠ some 32 ∨ sp ≠ 32) (h2 : q1.2.cps.toList.getLast? ≠ some sp) : bpAt sp q1 q2 = false := by
  run_tac sq0
  unfold bpAt
  rw [Bool.or_eq_false_iff]
  constructor
  · split
    · rfl
    · rename_i c l e
      rcases h1 with h1 | h1
      · rw [e] at h1
        by_cases hs : sp = 32
        · subst hs; simp at h1 ⊢; exact h1
        · simp [hs]
      · simp [h1]
  · split
    · rfl
    · rename_i c e
      rw [e] at h2
      simp at h2 ⊢
      exact h2
  run_tac sq
theorem FB.inQ_some {a : FB} {pFr : Nat} {as : List Addr} {lines tb1 tb2 : List PySem.Value} {y : Str} {o : Option Nat} {j : Nat} {T : Cells} {GT : GL} {r : Result} {H : HS} (ho : o = some j)
    (h : ∃ (f : Str) (oth : List (VV × VV)), (oth = [] ∨ ∃ s : Str, oth = [(.s sPrevpart, .s s)]) ∧ Flows .next (a.fr pFr f y ((.s sI, .i (j : Nat)) :: oth) :: a.vs as lines tb1 tb2) T GT r H) : a.inQ pFr as lines tb1 tb2 y o T GT r H := by
  subst ho; exact h
theorem first_sign (c : Nat) (fl : List Nat) : ((seqIndex? 0 (⟨⟨c :: fl⟩⟩ : Str).length).bind fun x => (⟨⟨c :: fl⟩⟩ : Str).cps[x]?) = some c := by
  have e2 : seqIndex? 0 (⟨⟨c :: fl⟩⟩ : Str).length = some 0 := by
    unfold seqIndex?
    simp [Str.length]
  rw [e2]
  simp
theorem tups_len {T : Cells} {as : List Addr} {ps : List (Str × Str)} (h : Tups T as ps) : as.length = ps.length := by
  induction h with
  | nil => rfl
  | cons _ _ _ _ _ _ ih => simp [ih]
theorem tups_two {T : Cells} {as : List Addr} {ps : List (Str × Str)} {i : Nat} (h : Tups T as ps) (hi : i < ps.length) : ∃ a q o k j, as[i]? = some a ∧ ps[i]? = some q ∧ (a, o) ∈ T ∧ tupO q.1 q.2 k j o := by
  rcases tups_at h i with ⟨_, h2⟩ | ⟨a, q, o, k, j, h1, h2, h3, h4, h5⟩
  · rw [List.drop_eq_nil_iff] at h2; (run_tac om)
  · refine ⟨a, q, o, k, j, h1, ?_, h3, h4⟩
    have := congrArg (·[0]?) h2
    simpa using this
set_option maxHeartbeats 0 in
theorem inB_s (hRn : RNd (cx w b1 b2 h₀ d os hk hN)) (hLg : LGA (cx w b1 b2 h₀ d os hk hN)) (i : Nat) (IH : InBOk (cx w b1 b2 h₀ d os hk hN) (W2 w b1 b2).params i) : InBOk (cx w b1 b2 h₀ d os hk hN) (W2 w b1 b2).params (i + 1) := by
  run_tac sq0
  intro a pFr pI as ps lines tb1 tb2 f y loc hsp hloc hi hps
  obtain ⟨pF, pFD, pL, pA, pAD, W, sp⟩ := a
  dsimp only at hsp
  refine sp_of fun p T GT J hP n t G => ?_
  intro s
  obtain ⟨a1, q1, o1, k1, j1, ha1, hq1, hm1, ep1, rfl⟩ := tups_two hP (i := i) (by (run_tac om))
  obtain ⟨a2, q2, o2, k2, j2, ha2, hq2, hm2, ep2, rfl⟩ := tups_two hP (i := i + 1) hi
  obtain ⟨T1, T2, hT⟩ := List.append_of_mem hm2
  obtain ⟨T3, T4, hT3⟩ := List.append_of_mem hm1
  rcases hloc with rfl | ⟨i0, s0, rfl⟩
  · (
    (run_tac gR 4 65)
    (refine gp [0, 1, 2, 3, 4, 5, 6, 7, 8] 9 [] 0 (by kernel_rfl) ?_; intro ns2 ts2 Gs2 s2; refine ko 1 (hRn pI ((i + 1 : Nat) : Int) (i : Int) i (by (run_tac om))) (by kernel_rfl) ?_ ?_)
    · trivial
    intro r H' h
    (apply Rets.elim h; intro k aa J)
    intro n1 t1 G1 s
    (run_tac gR 16 532608)
    refine gs (spaceB sp) (by kernel_rfl) (fun hb => ?_) (fun hb => ?_)
    · rw [spaceB_eq hsp] at hb
      obtain rfl : sp = 32 := by simpa using hb
      obtain ⟨⟨⟨fl⟩⟩, y2⟩ := q2
      have hq2l := (hps.2 _ (List.mem_of_getElem? hq2)).1
      rcases fl with _ | ⟨c, fl⟩
      · intro s
        (run_tac gR 39 66902239584249412499000745431311343266300482)
        (refine gp [2, 0, 1, 3, 4, 5, 6, 7, 8] 9 [] 0 (by kernel_rfl) ?_; intro ns6 ts6 Gs6 s6; refine ko 1 (hLg pA pAD (i + 1) ((i + 1 : Nat) : Int) (argTok 1 (codeOf (‹Cf› : Cf).t)) (as.map .ref) (.ref a2) rfl (by rw [List.getElem?_map, ha2]; rfl) (by rw [List.length_map, tups_len hP]; exact hps.1)) (by kernel_rfl) ?_ ?_)
        · trivial
        intro r H' h
        (apply Rets.elim h; intro k aa J)
        intro n2 t2 G2 s
        refine gbring 9 T _ T1 T2 hT (by kernel_rfl) fun n3 t3 G3 => ?_
        intro s
        (run_tac gR 76 401734535015836401829790998523719663209624826796275365618314)
        refine gput 9 T _ T1 T2 hT (by kernel_rfl) fun n7 t7 G7 => ?_
        intro s
        (refine gp [0, 1, 2, 3, 4, 5, 6, 7, 8] 9 [] 0 (by kernel_rfl) ?_; intro ns9 ts9 Gs9 s9; refine ko 1 (hLg pA pAD i (((i + 1 : Nat) : Int) - 1) (argTok 1 (codeOf (‹Cf› : Cf).t)) (as.map .ref) (.ref a1) (by (run_tac om)) (by rw [List.getElem?_map, ha1]; rfl) (by rw [List.length_map, tups_len hP]; exact hps.1)) (by kernel_rfl) ?_ ?_)
        · trivial
        intro r H' h
        (apply Rets.elim h; intro k aa J)
        intro n4 t4 G4 s
        refine gbring 9 T _ T3 T4 hT3 (by kernel_rfl) fun n5 t5 G5 => ?_
        intro s
        obtain ⟨f1, ⟨⟨pl⟩⟩⟩ := q1
        have hpl := (hps.2 _ (List.mem_of_getElem? hq1)).2
        rcases List.eq_nil_or_concat pl with rfl | ⟨pl, dd, rfl⟩
        · (run_tac gR 34 857825398530698)
          refine gput 9 T _ T3 T4 hT3 (by kernel_rfl) fun n6 t6 G6 => ?_
          intro s
          (refine gp [1, 2, 0, 3, 4, 5, 6, 7, 8] 9 [] 0 (by kernel_rfl) ?_; intro ns12 ts12 Gs12 s12; refine kaw (T := (T)) (GT := GT) 9 ((IH ⟨pF, pFD, pL, pA, pAD, W, 32⟩ pFr pI as ps lines tb1 tb2 ⟨⟨[]⟩⟩ y [(.s sI, .i ((i + 1 : Nat) : Int)), (.s sPrevpart, .s ⟨⟨[]⟩⟩)] hsp (.inr ⟨_, _, rfl⟩) (by (run_tac om)) hps)) (by kernel_rfl) ?_ ?_)
          · exact hP
          intro r H' h
          rw [lastBp_no hq1 hq2 (bp_no (.inl (by simp)) (by simp))]
          exact h
        · (run_tac gR 32 857825398530698)
          (run_tac Mine.gxT 0)
          intro z _
          cases z with
          | isTrue h => exact absurd h (by (run_tac om))
          | isFalse h =>
            intro s
            (run_tac gR 2 0)
            (run_tac Mine.gxT 0)
            intro b hb
            obtain rfl : b = true := by rw [← hb]; simp [Str.length]; (run_tac om)
            intro s
            (run_tac gR 11 3)
            (run_tac Mine.gxT 0)
            intro z hz
            obtain rfl : z = some dd := by rw [← hz]; exact last_sign pl dd
            intro s
            (run_tac gR 8 67)
            refine gs (([dd] : List Nat) == [32]) (by kernel_rfl) (fun hd => ?_) (fun hd => ?_)
            · intro s
              (run_tac gR 2 0)
              refine gput 9 T _ T3 T4 hT3 (by kernel_rfl) fun n6 t6 G6 => ?_
              intro s
              (refine gp [2, 0, 3, 4, 5, 6, 7, 8] 9 [] 0 (by kernel_rfl) ?_; intro ns19 ts19 Gs19 s19)
              refine ke (by kernel_rfl) ?_
              exact FB.inQ_some (lastBp_yes hq1 hq2 (bp_part (by simpa using hd))) ⟨⟨⟨[]⟩⟩, [(.s sPrevpart, .s ⟨⟨pl.concat dd⟩⟩)], .inr ⟨_, rfl⟩, flows 8 (by kernel_rfl)⟩
            · intro s
              (run_tac gR 1 0)
              refine gput 9 T _ T3 T4 hT3 (by kernel_rfl) fun n6 t6 G6 => ?_
              intro s
              (refine gp [1, 2, 0, 3, 4, 5, 6, 7, 8] 9 [] 0 (by kernel_rfl) ?_; intro ns21 ts21 Gs21 s21; refine kaw (T := (T)) (GT := GT) 9 ((IH ⟨pF, pFD, pL, pA, pAD, W, 32⟩ pFr pI as ps lines tb1 tb2 ⟨⟨[]⟩⟩ y [(.s sI, .i ((i + 1 : Nat) : Int)), (.s sPrevpart, .s ⟨⟨pl.concat dd⟩⟩)] hsp (.inr ⟨_, _, rfl⟩) (by (run_tac om)) hps)) (by kernel_rfl) ?_ ?_)
              · exact hP
              intro r H' h
              rw [lastBp_no hq1 hq2 (bp_no (.inl (by simp)) (by simpa using hd))]
              exact h
      · intro s
        (run_tac gR 39 66902239584249412499000745431311343266300482)
        (refine gp [2, 0, 1, 3, 4, 5, 6, 7, 8] 9 [] 0 (by kernel_rfl) ?_; intro ns24 ts24 Gs24 s24; refine ko 1 (hLg pA pAD (i + 1) ((i + 1 : Nat) : Int) (argTok 1 (codeOf (‹Cf› : Cf).t)) (as.map .ref) (.ref a2) rfl (by rw [List.getElem?_map, ha2]; rfl) (by rw [List.length_map, tups_len hP]; exact hps.1)) (by kernel_rfl) ?_ ?_)
        · trivial
        intro r H' h
        (apply Rets.elim h; intro k aa J)
        intro n2 t2 G2 s
        refine gbring 9 T _ T1 T2 hT (by kernel_rfl) fun n3 t3 G3 => ?_
        intro s
        (run_tac gR 32 857825398530698)
        (run_tac Mine.gxT 0)
        intro z _
        cases z with
        | isTrue h => exact absurd h (by (run_tac om))
        | isFalse h =>
          intro s
          (run_tac gR 8 3)
          (run_tac Mine.gxT 0)
          intro z hz
          obtain rfl : z = some c := by rw [← hz]; exact first_sign c fl
          intro s
          (run_tac gR 8 67)
          refine gs (([c] : List Nat) == [32]) (by kernel_rfl) (fun hc => ?_) (fun hc => ?_)
          · obtain rfl : c = 32 := by simpa using hc
            intro s
            (run_tac gR 2 0)
            refine gput 9 T _ T1 T2 hT (by kernel_rfl) fun n7 t7 G7 => ?_
            intro s
            (refine gp [2, 0, 3, 4, 5, 6, 7, 8] 9 [] 0 (by kernel_rfl) ?_; intro ns30 ts30 Gs30 s30)
            refine ke (by kernel_rfl) ?_
            exact FB.inQ_some (lastBp_yes hq1 hq2 bp_blank) ⟨⟨⟨32 :: fl⟩⟩, [], .inl rfl, flows 8 (by kernel_rfl)⟩
          · intro s
            (run_tac gR 43 22300746528083137500397314852069711355576899)
            refine gput 9 T _ T1 T2 hT (by kernel_rfl) fun n7 t7 G7 => ?_
            intro s
            (refine gp [0, 1, 2, 3, 4, 5, 6, 7, 8] 9 [] 0 (by kernel_rfl) ?_; intro ns32 ts32 Gs32 s32; refine ko 1 (hLg pA pAD i (((i + 1 : Nat) : Int) - 1) (argTok 1 (codeOf (‹Cf› : Cf).t)) (as.map .ref) (.ref a1) (by (run_tac om)) (by rw [List.getElem?_map, ha1]; rfl) (by rw [List.length_map, tups_len hP]; exact hps.1)) (by kernel_rfl) ?_ ?_)
            · trivial
            intro r H' h
            (apply Rets.elim h; intro k aa J)
            intro n4 t4 G4 s
            refine gbring 9 T _ T3 T4 hT3 (by kernel_rfl) fun n5 t5 G5 => ?_
            intro s
            obtain ⟨f1, ⟨⟨pl⟩⟩⟩ := q1
            have hpl := (hps.2 _ (List.mem_of_getElem? hq1)).2
            rcases List.eq_nil_or_concat pl with rfl | ⟨pl, dd, rfl⟩
            · (run_tac gR 34 857825398530698)
              refine gput 9 T _ T3 T4 hT3 (by kernel_rfl) fun n6 t6 G6 => ?_
              intro s
              (refine gp [1, 2, 0, 3, 4, 5, 6, 7, 8] 9 [] 0 (by kernel_rfl) ?_; intro ns35 ts35 Gs35 s35; refine kaw (T := (T)) (GT := GT) 9 ((IH ⟨pF, pFD, pL, pA, pAD, W, 32⟩ pFr pI as ps lines tb1 tb2 ⟨⟨c :: fl⟩⟩ y [(.s sI, .i ((i + 1 : Nat) : Int)), (.s sPrevpart, .s ⟨⟨[]⟩⟩)] hsp (.inr ⟨_, _, rfl⟩) (by (run_tac om)) hps)) (by kernel_rfl) ?_ ?_)
              · exact hP
              intro r H' h
              rw [lastBp_no hq1 hq2 (bp_no (.inl (by simpa using hc)) (by simp))]
              exact h
            · (run_tac gR 32 857825398530698)
              (run_tac Mine.gxT 0)
              intro z _
              cases z with
              | isTrue h => exact absurd h (by (run_tac om))
              | isFalse h =>
                intro s
                (run_tac gR 2 0)
                (run_tac Mine.gxT 0)
                intro b hb
                obtain rfl : b = true := by rw [← hb]; simp [Str.length]; (run_tac om)
                intro s
                (run_tac gR 11 3)
                (run_tac Mine.gxT 0)
                intro z hz
                obtain rfl : z = some dd := by rw [← hz]; exact last_sign pl dd
                intro s
                (run_tac gR 8 67)
                refine gs (([dd] : List Nat) == [32]) (by kernel_rfl) (fun hd => ?_) (fun hd => ?_)
                · intro s
                  (run_tac gR 2 0)
                  refine gput 9 T _ T3 T4 hT3 (by kernel_rfl) fun n6 t6 G6 => ?_
                  intro s
                  (refine gp [2, 0, 3, 4, 5, 6, 7, 8] 9 [] 0 (by kernel_rfl) ?_; intro ns42 ts42 Gs42 s42)
                  refine ke (by kernel_rfl) ?_
                  exact FB.inQ_some (lastBp_yes hq1 hq2 (bp_part (by simpa using hd))) ⟨⟨⟨c :: fl⟩⟩, [(.s sPrevpart, .s ⟨⟨pl.concat dd⟩⟩)], .inr ⟨_, rfl⟩, flows 8 (by kernel_rfl)⟩
                · intro s
                  (run_tac gR 1 0)
                  refine gput 9 T _ T3 T4 hT3 (by kernel_rfl) fun n6 t6 G6 => ?_
                  intro s
                  (refine gp [1, 2, 0, 3, 4, 5, 6, 7, 8] 9 [] 0 (by kernel_rfl) ?_; intro ns44 ts44 Gs44 s44; refine kaw (T := (T)) (GT := GT) 9 ((IH ⟨pF, pFD, pL, pA, pAD, W, 32⟩ pFr pI as ps lines tb1 tb2 ⟨⟨c :: fl⟩⟩ y [(.s sI, .i ((i + 1 : Nat) : Int)), (.s sPrevpart, .s ⟨⟨pl.concat dd⟩⟩)] hsp (.inr ⟨_, _, rfl⟩) (by (run_tac om)) hps)) (by kernel_rfl) ?_ ?_)
                  · exact hP
                  intro r H' h
                  rw [lastBp_no hq1 hq2 (bp_no (.inl (by simpa using hc)) (by simpa using hd))]
                  exact h
    · rw [spaceB_eq hsp] at hb
      have hs32 : sp ≠ 32 := by simpa using hb
      intro s
      (run_tac gR 45 66902239584249412499000745431311343266300482)
      (refine gp [2, 0, 1, 3, 4, 5, 6, 7, 8] 9 [] 0 (by kernel_rfl) ?_; intro ns47 ts47 Gs47 s47; refine ko 1 (hLg pA pAD i (((i + 1 : Nat) : Int) - 1) (argTok 1 (codeOf (‹Cf› : Cf).t)) (as.map .ref) (.ref a1) (by (run_tac om)) (by rw [List.getElem?_map, ha1]; rfl) (by rw [List.length_map, tups_len hP]; exact hps.1)) (by kernel_rfl) ?_ ?_)
      · trivial
      intro r H' h
      (apply Rets.elim h; intro k aa J)
      intro n4 t4 G4 s
      refine gbring 9 T _ T3 T4 hT3 (by kernel_rfl) fun n5 t5 G5 => ?_
      intro s
      obtain ⟨f1, ⟨⟨pl⟩⟩⟩ := q1
      have hpl := (hps.2 _ (List.mem_of_getElem? hq1)).2
      rcases List.eq_nil_or_concat pl with rfl | ⟨pl, dd, rfl⟩
      · (run_tac gR 34 857825398530698)
        refine gput 9 T _ T3 T4 hT3 (by kernel_rfl) fun n6 t6 G6 => ?_
        intro s
        (refine gp [1, 2, 0, 3, 4, 5, 6, 7, 8] 9 [] 0 (by kernel_rfl) ?_; intro ns50 ts50 Gs50 s50; refine kaw (T := (T)) (GT := GT) 9 ((IH ⟨pF, pFD, pL, pA, pAD, W, sp⟩ pFr pI as ps lines tb1 tb2 f y [(.s sI, .i ((i + 1 : Nat) : Int)), (.s sPrevpart, .s ⟨⟨[]⟩⟩)] hsp (.inr ⟨_, _, rfl⟩) (by (run_tac om)) hps)) (by kernel_rfl) ?_ ?_)
        · exact hP
        intro r H' h
        rw [lastBp_no hq1 hq2 (bp_no (.inr hs32) (by simp))]
        exact h
      · (run_tac gR 32 857825398530698)
        (run_tac Mine.gxT 0)
        intro z _
        cases z with
        | isTrue h => exact absurd h (by (run_tac om))
        | isFalse h =>
          intro s
          (run_tac gR 2 0)
          (run_tac Mine.gxT 0)
          intro b hb
          obtain rfl : b = true := by rw [← hb]; simp [Str.length]; (run_tac om)
          intro s
          (run_tac gR 11 3)
          (run_tac Mine.gxT 0)
          intro z hz
          obtain rfl : z = some dd := by rw [← hz]; exact last_sign pl dd
          intro s
          (run_tac gR 8 67)
          refine gs (([dd] : List Nat) == [sp]) (by kernel_rfl) (fun hd => ?_) (fun hd => ?_)
          · intro s
            (run_tac gR 2 0)
            refine gput 9 T _ T3 T4 hT3 (by kernel_rfl) fun n6 t6 G6 => ?_
            intro s
            (refine gp [2, 0, 3, 4, 5, 6, 7, 8] 9 [] 0 (by kernel_rfl) ?_; intro ns57 ts57 Gs57 s57)
            refine ke (by kernel_rfl) ?_
            exact FB.inQ_some (lastBp_yes hq1 hq2 (bp_part (by simpa using hd))) ⟨f, [(.s sPrevpart, .s ⟨⟨pl.concat dd⟩⟩)], .inr ⟨_, rfl⟩, flows 8 (by kernel_rfl)⟩
          · intro s
            (run_tac gR 1 0)
            refine gput 9 T _ T3 T4 hT3 (by kernel_rfl) fun n6 t6 G6 => ?_
            intro s
            (refine gp [1, 2, 0, 3, 4, 5, 6, 7, 8] 9 [] 0 (by kernel_rfl) ?_; intro ns59 ts59 Gs59 s59; refine kaw (T := (T)) (GT := GT) 9 ((IH ⟨pF, pFD, pL, pA, pAD, W, sp⟩ pFr pI as ps lines tb1 tb2 f y [(.s sI, .i ((i + 1 : Nat) : Int)), (.s sPrevpart, .s ⟨⟨pl.concat dd⟩⟩)] hsp (.inr ⟨_, _, rfl⟩) (by (run_tac om)) hps)) (by kernel_rfl) ?_ ?_)
            · exact hP
            intro r H' h
            rw [lastBp_no hq1 hq2 (bp_no (.inr hs32) (by simpa using hd))]
            exact h)
  · (
    (run_tac gR 4 65)
    (refine gp [0, 1, 2, 3, 4, 5, 6, 7, 8] 9 [] 0 (by kernel_rfl) ?_; intro ns62 ts62 Gs62 s62; refine ko 1 (hRn pI ((i + 1 : Nat) : Int) (i : Int) i (by (run_tac om))) (by kernel_rfl) ?_ ?_)
    · trivial
    intro r H' h
    (apply Rets.elim h; intro k aa J)
    intro n1 t1 G1 s
    (run_tac gR 16 532608)
    refine gs (spaceB sp) (by kernel_rfl) (fun hb => ?_) (fun hb => ?_)
    · rw [spaceB_eq hsp] at hb
      obtain rfl : sp = 32 := by simpa using hb
      obtain ⟨⟨⟨fl⟩⟩, y2⟩ := q2
      have hq2l := (hps.2 _ (List.mem_of_getElem? hq2)).1
      rcases fl with _ | ⟨c, fl⟩
      · intro s
        (run_tac gR 39 66902239584249412499000745431311343266300482)
        (refine gp [2, 0, 1, 3, 4, 5, 6, 7, 8] 9 [] 0 (by kernel_rfl) ?_; intro ns66 ts66 Gs66 s66; refine ko 1 (hLg pA pAD (i + 1) ((i + 1 : Nat) : Int) (argTok 1 (codeOf (‹Cf› : Cf).t)) (as.map .ref) (.ref a2) rfl (by rw [List.getElem?_map, ha2]; rfl) (by rw [List.length_map, tups_len hP]; exact hps.1)) (by kernel_rfl) ?_ ?_)
        · trivial
        intro r H' h
        (apply Rets.elim h; intro k aa J)
        intro n2 t2 G2 s
        refine gbring 9 T _ T1 T2 hT (by kernel_rfl) fun n3 t3 G3 => ?_
        intro s
        (run_tac gR 76 401734535015836401829790998523719663209624826796275365618314)
        refine gput 9 T _ T1 T2 hT (by kernel_rfl) fun n7 t7 G7 => ?_
        intro s
        (refine gp [0, 1, 2, 3, 4, 5, 6, 7, 8] 9 [] 0 (by kernel_rfl) ?_; intro ns69 ts69 Gs69 s69; refine ko 1 (hLg pA pAD i (((i + 1 : Nat) : Int) - 1) (argTok 1 (codeOf (‹Cf› : Cf).t)) (as.map .ref) (.ref a1) (by (run_tac om)) (by rw [List.getElem?_map, ha1]; rfl) (by rw [List.length_map, tups_len hP]; exact hps.1)) (by kernel_rfl) ?_ ?_)
        · trivial
        intro r H' h
        (apply Rets.elim h; intro k aa J)
        intro n4 t4 G4 s
        refine gbring 9 T _ T3 T4 hT3 (by kernel_rfl) fun n5 t5 G5 => ?_
        intro s
        obtain ⟨f1, ⟨⟨pl⟩⟩⟩ := q1
        have hpl := (hps.2 _ (List.mem_of_getElem? hq1)).2
        rcases List.eq_nil_or_concat pl with rfl | ⟨pl, dd, rfl⟩
        · (run_tac gR 34 857825398530698)
          refine gput 9 T _ T3 T4 hT3 (by kernel_rfl) fun n6 t6 G6 => ?_
          intro s
          (refine gp [1, 2, 0, 3, 4, 5, 6, 7, 8] 9 [] 0 (by kernel_rfl) ?_; intro ns72 ts72 Gs72 s72; refine kaw (T := (T)) (GT := GT) 9 ((IH ⟨pF, pFD, pL, pA, pAD, W, 32⟩ pFr pI as ps lines tb1 tb2 ⟨⟨[]⟩⟩ y [(.s sI, .i ((i + 1 : Nat) : Int)), (.s sPrevpart, .s ⟨⟨[]⟩⟩)] hsp (.inr ⟨_, _, rfl⟩) (by (run_tac om)) hps)) (by kernel_rfl) ?_ ?_)
          · exact hP
          intro r H' h
          rw [lastBp_no hq1 hq2 (bp_no (.inl (by simp)) (by simp))]
          exact h
        · (run_tac gR 32 857825398530698)
          (run_tac Mine.gxT 0)
          intro z _
          cases z with
          | isTrue h => exact absurd h (by (run_tac om))
          | isFalse h =>
            intro s
            (run_tac gR 2 0)
            (run_tac Mine.gxT 0)
            intro b hb
            obtain rfl : b = true := by rw [← hb]; simp [Str.length]; (run_tac om)
            intro s
            (run_tac gR 11 3)
            (run_tac Mine.gxT 0)
            intro z hz
            obtain rfl : z = some dd := by rw [← hz]; exact last_sign pl dd
            intro s
            (run_tac gR 8 67)
            refine gs (([dd] : List Nat) == [32]) (by kernel_rfl) (fun hd => ?_) (fun hd => ?_)
            · intro s
              (run_tac gR 2 0)
              refine gput 9 T _ T3 T4 hT3 (by kernel_rfl) fun n6 t6 G6 => ?_
              intro s
              (refine gp [2, 0, 3, 4, 5, 6, 7, 8] 9 [] 0 (by kernel_rfl) ?_; intro ns79 ts79 Gs79 s79)
              refine ke (by kernel_rfl) ?_
              exact FB.inQ_some (lastBp_yes hq1 hq2 (bp_part (by simpa using hd))) ⟨⟨⟨[]⟩⟩, [(.s sPrevpart, .s ⟨⟨pl.concat dd⟩⟩)], .inr ⟨_, rfl⟩, flows 8 (by kernel_rfl)⟩
            · intro s
              (run_tac gR 1 0)
              refine gput 9 T _ T3 T4 hT3 (by kernel_rfl) fun n6 t6 G6 => ?_
              intro s
              (refine gp [1, 2, 0, 3, 4, 5, 6, 7, 8] 9 [] 0 (by kernel_rfl) ?_; intro ns81 ts81 Gs81 s81; refine kaw (T := (T)) (GT := GT) 9 ((IH ⟨pF, pFD, pL, pA, pAD, W, 32⟩ pFr pI as ps lines tb1 tb2 ⟨⟨[]⟩⟩ y [(.s sI, .i ((i + 1 : Nat) : Int)), (.s sPrevpart, .s ⟨⟨pl.concat dd⟩⟩)] hsp (.inr ⟨_, _, rfl⟩) (by (run_tac om)) hps)) (by kernel_rfl) ?_ ?_)
              · exact hP
              intro r H' h
              rw [lastBp_no hq1 hq2 (bp_no (.inl (by simp)) (by simpa using hd))]
              exact h
      · intro s
        (run_tac gR 39 66902239584249412499000745431311343266300482)
        (refine gp [2, 0, 1, 3, 4, 5, 6, 7, 8] 9 [] 0 (by kernel_rfl) ?_; intro ns84 ts84 Gs84 s84; refine ko 1 (hLg pA pAD (i + 1) ((i + 1 : Nat) : Int) (argTok 1 (codeOf (‹Cf› : Cf).t)) (as.map .ref) (.ref a2) rfl (by rw [List.getElem?_map, ha2]; rfl) (by rw [List.length_map, tups_len hP]; exact hps.1)) (by kernel_rfl) ?_ ?_)
        · trivial
        intro r H' h
        (apply Rets.elim h; intro k aa J)
        intro n2 t2 G2 s
        refine gbring 9 T _ T1 T2 hT (by kernel_rfl) fun n3 t3 G3 => ?_
        intro s
        (run_tac gR 32 857825398530698)
        (run_tac Mine.gxT 0)
        intro z _
        cases z with
        | isTrue h => exact absurd h (by (run_tac om))
        | isFalse h =>
          intro s
          (run_tac gR 8 3)
          (run_tac Mine.gxT 0)
          intro z hz
          obtain rfl : z = some c := by rw [← hz]; exact first_sign c fl
          intro s
          (run_tac gR 8 67)
          refine gs (([c] : List Nat) == [32]) (by kernel_rfl) (fun hc => ?_) (fun hc => ?_)
          · obtain rfl : c = 32 := by simpa using hc
            intro s
            (run_tac gR 2 0)
            refine gput 9 T _ T1 T2 hT (by kernel_rfl) fun n7 t7 G7 => ?_
            intro s
            (refine gp [2, 0, 3, 4, 5, 6, 7, 8] 9 [] 0 (by kernel_rfl) ?_; intro ns90 ts90 Gs90 s90)
            refine ke (by kernel_rfl) ?_
            exact FB.inQ_some (lastBp_yes hq1 hq2 bp_blank) ⟨⟨⟨32 :: fl⟩⟩, [(.s sPrevpart, .s s0)], .inr ⟨_, rfl⟩, flows 8 (by kernel_rfl)⟩
          · intro s
            (run_tac gR 43 22300746528083137500397314852069711355576899)
            refine gput 9 T _ T1 T2 hT (by kernel_rfl) fun n7 t7 G7 => ?_
            intro s
            (refine gp [0, 1, 2, 3, 4, 5, 6, 7, 8] 9 [] 0 (by kernel_rfl) ?_; intro ns92 ts92 Gs92 s92; refine ko 1 (hLg pA pAD i (((i + 1 : Nat) : Int) - 1) (argTok 1 (codeOf (‹Cf› : Cf).t)) (as.map .ref) (.ref a1) (by (run_tac om)) (by rw [List.getElem?_map, ha1]; rfl) (by rw [List.length_map, tups_len hP]; exact hps.1)) (by kernel_rfl) ?_ ?_)
            · trivial
            intro r H' h
            (apply Rets.elim h; intro k aa J)
            intro n4 t4 G4 s
            refine gbring 9 T _ T3 T4 hT3 (by kernel_rfl) fun n5 t5 G5 => ?_
            intro s
            obtain ⟨f1, ⟨⟨pl⟩⟩⟩ := q1
            have hpl := (hps.2 _ (List.mem_of_getElem? hq1)).2
            rcases List.eq_nil_or_concat pl with rfl | ⟨pl, dd, rfl⟩
            · (run_tac gR 34 857825398530698)
              refine gput 9 T _ T3 T4 hT3 (by kernel_rfl) fun n6 t6 G6 => ?_
              intro s
              (refine gp [1, 2, 0, 3, 4, 5, 6, 7, 8] 9 [] 0 (by kernel_rfl) ?_; intro ns95 ts95 Gs95 s95; refine kaw (T := (T)) (GT := GT) 9 ((IH ⟨pF, pFD, pL, pA, pAD, W, 32⟩ pFr pI as ps lines tb1 tb2 ⟨⟨c :: fl⟩⟩ y [(.s sI, .i ((i + 1 : Nat) : Int)), (.s sPrevpart, .s ⟨⟨[]⟩⟩)] hsp (.inr ⟨_, _, rfl⟩) (by (run_tac om)) hps)) (by kernel_rfl) ?_ ?_)
              · exact hP
              intro r H' h
              rw [lastBp_no hq1 hq2 (bp_no (.inl (by simpa using hc)) (by simp))]
              exact h
            · (run_tac gR 32 857825398530698)
              (run_tac Mine.gxT 0)
              intro z _
              cases z with
              | isTrue h => exact absurd h (by (run_tac om))
              | isFalse h =>
                intro s
                (run_tac gR 2 0)
                (run_tac Mine.gxT 0)
                intro b hb
                obtain rfl : b = true := by rw [← hb]; simp [Str.length]; (run_tac om)
                intro s
                (run_tac gR 11 3)
                (run_tac Mine.gxT 0)
                intro z hz
                obtain rfl : z = some dd := by rw [← hz]; exact last_sign pl dd
                intro s
                (run_tac gR 8 67)
                refine gs (([dd] : List Nat) == [32]) (by kernel_rfl) (fun hd => ?_) (fun hd => ?_)
                · intro s
                  (run_tac gR 2 0)
                  refine gput 9 T _ T3 T4 hT3 (by kernel_rfl) fun n6 t6 G6 => ?_
                  intro s
                  (refine gp [2, 0, 3, 4, 5, 6, 7, 8] 9 [] 0 (by kernel_rfl) ?_; intro ns102 ts102 Gs102 s102)
                  refine ke (by kernel_rfl) ?_
                  exact FB.inQ_some (lastBp_yes hq1 hq2 (bp_part (by simpa using hd))) ⟨⟨⟨c :: fl⟩⟩, [(.s sPrevpart, .s ⟨⟨pl.concat dd⟩⟩)], .inr ⟨_, rfl⟩, flows 8 (by kernel_rfl)⟩
                · intro s
                  (run_tac gR 1 0)
                  refine gput 9 T _ T3 T4 hT3 (by kernel_rfl) fun n6 t6 G6 => ?_
                  intro s
                  (refine gp [1, 2, 0, 3, 4, 5, 6, 7, 8] 9 [] 0 (by kernel_rfl) ?_; intro ns104 ts104 Gs104 s104; refine kaw (T := (T)) (GT := GT) 9 ((IH ⟨pF, pFD, pL, pA, pAD, W, 32⟩ pFr pI as ps lines tb1 tb2 ⟨⟨c :: fl⟩⟩ y [(.s sI, .i ((i + 1 : Nat) : Int)), (.s sPrevpart, .s ⟨⟨pl.concat dd⟩⟩)] hsp (.inr ⟨_, _, rfl⟩) (by (run_tac om)) hps)) (by kernel_rfl) ?_ ?_)
                  · exact hP
                  intro r H' h
                  rw [lastBp_no hq1 hq2 (bp_no (.inl (by simpa using hc)) (by simpa using hd))]
                  exact h
    · rw [spaceB_eq hsp] at hb
      have hs32 : sp ≠ 32 := by simpa using hb
      intro s
      (run_tac gR 45 66902239584249412499000745431311343266300482)
      (refine gp [2, 0, 1, 3, 4, 5, 6, 7, 8] 9 [] 0 (by kernel_rfl) ?_; intro ns107 ts107 Gs107 s107; refine ko 1 (hLg pA pAD i (((i + 1 : Nat) : Int) - 1) (argTok 1 (codeOf (‹Cf› : Cf).t)) (as.map .ref) (.ref a1) (by (run_tac om)) (by rw [List.getElem?_map, ha1]; rfl) (by rw [List.length_map, tups_len hP]; exact hps.1)) (by kernel_rfl) ?_ ?_)
      · trivial
      intro r H' h
      (apply Rets.elim h; intro k aa J)
      intro n4 t4 G4 s
      refine gbring 9 T _ T3 T4 hT3 (by kernel_rfl) fun n5 t5 G5 => ?_
      intro s
      obtain ⟨f1, ⟨⟨pl⟩⟩⟩ := q1
      have hpl := (hps.2 _ (List.mem_of_getElem? hq1)).2
      rcases List.eq_nil_or_concat pl with rfl | ⟨pl, dd, rfl⟩
      · (run_tac gR 34 857825398530698)
        refine gput 9 T _ T3 T4 hT3 (by kernel_rfl) fun n6 t6 G6 => ?_
        intro s
        (refine gp [1, 2, 0, 3, 4, 5, 6, 7, 8] 9 [] 0 (by kernel_rfl) ?_; intro ns110 ts110 Gs110 s110; refine kaw (T := (T)) (GT := GT) 9 ((IH ⟨pF, pFD, pL, pA, pAD, W, sp⟩ pFr pI as ps lines tb1 tb2 f y [(.s sI, .i ((i + 1 : Nat) : Int)), (.s sPrevpart, .s ⟨⟨[]⟩⟩)] hsp (.inr ⟨_, _, rfl⟩) (by (run_tac om)) hps)) (by kernel_rfl) ?_ ?_)
        · exact hP
        intro r H' h
        rw [lastBp_no hq1 hq2 (bp_no (.inr hs32) (by simp))]
        exact h
      · (run_tac gR 32 857825398530698)
        (run_tac Mine.gxT 0)
        intro z _
        cases z with
        | isTrue h => exact absurd h (by (run_tac om))
        | isFalse h =>
          intro s
          (run_tac gR 2 0)
          (run_tac Mine.gxT 0)
          intro b hb
          obtain rfl : b = true := by rw [← hb]; simp [Str.length]; (run_tac om)
          intro s
          (run_tac gR 11 3)
          (run_tac Mine.gxT 0)
          intro z hz
          obtain rfl : z = some dd := by rw [← hz]; exact last_sign pl dd
          intro s
          (run_tac gR 8 67)
          refine gs (([dd] : List Nat) == [sp]) (by kernel_rfl) (fun hd => ?_) (fun hd => ?_)
          · intro s
            (run_tac gR 2 0)
            refine gput 9 T _ T3 T4 hT3 (by kernel_rfl) fun n6 t6 G6 => ?_
            intro s
            (refine gp [2, 0, 3, 4, 5, 6, 7, 8] 9 [] 0 (by kernel_rfl) ?_; intro ns117 ts117 Gs117 s117)
            refine ke (by kernel_rfl) ?_
            exact FB.inQ_some (lastBp_yes hq1 hq2 (bp_part (by simpa using hd))) ⟨f, [(.s sPrevpart, .s ⟨⟨pl.concat dd⟩⟩)], .inr ⟨_, rfl⟩, flows 8 (by kernel_rfl)⟩
          · intro s
            (run_tac gR 1 0)
            refine gput 9 T _ T3 T4 hT3 (by kernel_rfl) fun n6 t6 G6 => ?_
            intro s
            (refine gp [1, 2, 0, 3, 4, 5, 6, 7, 8] 9 [] 0 (by kernel_rfl) ?_; intro ns119 ts119 Gs119 s119; refine kaw (T := (T)) (GT := GT) 9 ((IH ⟨pF, pFD, pL, pA, pAD, W, sp⟩ pFr pI as ps lines tb1 tb2 f y [(.s sI, .i ((i + 1 : Nat) : Int)), (.s sPrevpart, .s ⟨⟨pl.concat dd⟩⟩)] hsp (.inr ⟨_, _, rfl⟩) (by (run_tac om)) hps)) (by kernel_rfl) ?_ ?_)
            · exact hP
            intro r H' h
            rw [lastBp_no hq1 hq2 (bp_no (.inr hs32) (by simpa using hd))]
            exact h)
  run_tac sq
set_option maxHeartbeats 0 in
theorem owB_t (hL : LenOk (cx w b1 b2 h₀ d os hk hN)) (hS : StrOk (cx w b1 b2 h₀ d os hk hN)) : OwBOk (cx w b1 b2 h₀ d os hk hN) := by
  run_tac sq0
  intro pA pAD as ps tb1 tb2 hps hsz hns ht1 ht2
  refine sp_of fun p T GT J hP n t G => ?_
  intro s
  (
    (run_tac gR 60 51422020481278954687419128169787270735588259341348984949309440)
    (refine gp [1, 2, 3, 0, 4] 5 [] 0 (by kernel_rfl) ?_; intro ns2 ts2 Gs2 s2; refine kc 3 (hL pA pAD as ps tb1 hps ht1) (by kernel_rfl) ?_ ?_)
    · exact tups_up 2 hP (by kernel_rfl)
    rintro r H' ⟨tb1', ht1', h⟩
    obtain ⟨i, hi⟩ : ∃ i : Int, i = (sizeOf2 ps : Int) := ⟨_, rfl⟩
    rw [← hi] at h
    (apply Rets.elim h; intro k aa J)
    intro n2 t2 G2 s
    have hi2 : 1 ≤ i := by rw [hi]; (run_tac om)
    (run_tac gR 1 0)
    (run_tac Mine.gxT 0)
    intro z _
    cases z with
    | isTrue h => exact absurd h (by (run_tac om))
    | isFalse h =>
      intro s
      (run_tac gR 0 0)
      (run_tac Mine.gxT 0)
      intro z _
      cases z with
      | isTrue h => exact absurd h (by have := size_small hps; (run_tac om))
      | isFalse h =>
        intro s
        (run_tac gR 3 0)
        (run_tac Mine.gxT 0)
        intro z hz
        obtain rfl : z = false := by
          rw [← hz]
          have : i ≠ 0 := by (run_tac om)
          simpa using this
        · intro s
          (run_tac gR 16 16793600)
          (refine gp [0, 1, 4, 2, 3] 5 [] 0 (by kernel_rfl) ?_; intro ns8 ts8 Gs8 s8; refine kc 3 (hS pA pAD as ps tb2 hps ht2) (by kernel_rfl) ?_ ?_)
          · exact tups_up 2 hP (by kernel_rfl)
          rintro r H' ⟨tb2', ht2', h⟩
          (apply Rets.elim h; intro k aa J)
          intro n3 t3 G3 s
          (run_tac gR 11 0)
          refine gs (decide ((allS ps).length > 0) && (allS ps).cps.all PySem.Unicode.isSpace) (by kernel_rfl) (fun hb => absurd (hns.symm.trans hb) (by decide)) (fun hb => ?_)
          intro s
          (run_tac gR 2 0)
          (refine gp [0, 1, 3, 2] 5 [] 0 (by kernel_rfl) ?_; intro ns12 ts12 Gs12 s12; refine ke (by kernel_rfl) ?_)
          exact ⟨tb1', tb2', ht1', ht2', rets 4 (by kernel_rfl)⟩)
  run_tac sq
theorem str_is {D : DecidableEq PySem.Value} {a b : Str} {i j : Tok} (h : @BEq.beq _ (@instBEqOfDecidableEq _ D) (PySem.Value.str a i) (PySem.Value.str b j) = true) : a = b := by
  have := @of_decide_eq_true _ (D _ _) h
  exact (PySem.Value.str.inj this).1
theorem nil_no2 {y : Str} (hy : 1 ≤ y.length) (e : y = ⟨⟨[]⟩⟩) : False := by
  subst e
  exact absurd hy (by decide)
theorem nil_no {y : Str} (hy : 1 ≤ y.length) : (y.cps.toList == ([] : List Nat)) = false := by
  cases h : (y.cps.toList == ([] : List Nat)) with
  | false => rfl
  | true =>
    have e := eq_of_beq h
    have e2 : y.length = y.cps.toList.length := rfl
    rw [e] at e2
    simp at e2
    (run_tac om)
set_option maxHeartbeats 0 in
theorem nlB_t (hL : LenOk (cx w b1 b2 h₀ d os hk hN)) (hS : StrOk (cx w b1 b2 h₀ d os hk hN)) (hO : OwBOk (cx w b1 b2 h₀ d os hk hN)) (hP : PopOk (cx w b1 b2 h₀ d os hk hN)) (hR : ResetOk (cx w b1 b2 h₀ d os hk hN)) : NlBOk (cx w b1 b2 h₀ d os hk hN) := by
  run_tac sq0
  intro a as ps x y lines tb1 tb2 ls kn hsp hls hps hy hns h7 hlc hsz ht1 ht2
  refine sp_of fun p T GT J hT0 n t G => ?_
  intro s
  obtain ⟨as', al, o, k9, j9, rfl, hT', hm, hto⟩ := tups_last hT0
  obtain ⟨ep, rfl⟩ := hto
  obtain ⟨T1, T2, hT⟩ := List.append_of_mem hm
  have h6 : as'.length ≤ 900 := by simp at h7; (run_tac om)
  refine gbring 7 T _ T1 T2 hT (by kernel_rfl) fun n t G => ?_
  intro s
  (
    (run_tac gR 86 148504035386959120749227402851906550694793307058544939833324159689887255971800324308190391544986608257466368)
    (refine gp [2, 3, 0, 1, 4, 5, 6, 7, 8, 9] 10 [] 0 (by kernel_rfl) ?_; intro ns2 ts2 Gs2 s2; refine kc 2 (hP a.pA a.pAD as' al h6) (by kernel_rfl) ?_ ?_)
    · trivial
    rintro r H' h
    (apply Rets.elim h; intro k aa J)
    intro n1 t1 G1 s
    (run_tac gR 27 5535374631935096402112)
    refine gjoin (treeS (.pure (.done (.ret (.bool true)))) (‹Cf› : Cf)) ?_ ?_
    · intro s
      (run_tac gR 61 1388934420257056706528263486188393978697130470220248489447527547524)
      (run_tac Mine.gxT 0)
      intro z _
      cases z with
      | isFalse h => exact (or3_yes h (by kernel_rfl)).elim
      | isTrue h =>
        intro s
        (run_tac gR 64 44111106414267323759689373260581845724801526299590800737023235706893537382477)
        (run_tac Mine.gxT 0)
        intro y' he
        obtain rfl : y' = none := by rw [← he]; exact past_concat (by rw [List.length_map]; (run_tac om))
        intro s
        (run_tac gR 35 7679163952340614393156370432)
        refine gview 5 ⟨.r 178, some (a.pAD + 281), .seqV ((as' ++ [n1 + 285]).map .ref)⟩ ⟨.r 178, some (a.pAD + 281), .seqV (PySem.W.R.concatR (as'.map PySem.Value.ref) (.ref (n1 + 285)))⟩ (by kernel_rfl) (by rw [concat_refs]) fun jv J => ?_
        intro s
        refine gput 14 T _ T1 T2 hT (by kernel_rfl) fun n2 t2 G2 => ?_
        intro s
        (refine gp [5, 6, 9, 0, 7, 8, 10, 11, 12, 13] 14 [] 0 (by kernel_rfl) ?_; intro ns8 ts8 Gs8 s8; refine kc 3 (hL a.pA a.pAD (as' ++ [n1 + 285]) (ps ++ [(x, y)]) tb1 hps ht1) (by kernel_rfl) ?_ ?_)
        · exact tups_snoc (k := k9) (j := j9) (o := { cls := .type "tuple", data := .seq #[.str x k9, .str y j9] 0 }) (tups_up 7 hT' (by kernel_rfl)) (dropC_mem (j := 0) (by kernel_rfl)) ⟨_, rfl⟩
        rintro r H' ⟨tb1', ht1', h⟩
        obtain ⟨i, hi⟩ : ∃ i : Int, i = (sizeOf2 (ps ++ [(x, y)]) : Int) := ⟨_, rfl⟩
        rw [← hi] at h
        (apply Rets.elim h; intro k aa J)
        intro n3 t3 G3 s
        have hi2 : 1 ≤ i := by rw [hi]; exact Int.ofNat_le.mpr (sizeOf2_last hy)
        (run_tac gR 1 0)
        (run_tac Mine.gxT 0)
        intro z _
        cases z with
        | isTrue h => exact absurd h (by (run_tac om))
        | isFalse h =>
          intro s
          (run_tac gR 0 0)
          (run_tac Mine.gxT 0)
          intro z _
          cases z with
          | isTrue h => exact absurd h (by have := size_small hps; (run_tac om))
          | isFalse h =>
            intro s
            (run_tac gR 8 1)
            refine gs (decide (0 < i)) (by kernel_rfl) (fun hb => ?_) (fun hb => absurd (of_decide_eq_false hb) (by (run_tac om)))
            intro s
            (run_tac gR 40 11783356951065475374818046325298255712346712310405)
            (refine gp [0, 1, 2, 6, 3, 4, 5, 7, 8, 9] 10 [] 0 (by kernel_rfl) ?_; intro ns14 ts14 Gs14 s14; refine kc 4 (hO a.pA a.pAD (as' ++ [n1 + 285]) (ps ++ [(x, y)]) tb1' tb2 hps (sizeOf2_last hy) hns ht1' ht2) (by kernel_rfl) ?_ ?_)
            · exact tups_snoc (k := k9) (j := j9) (o := { cls := .type "tuple", data := .seq #[.str x k9, .str y j9] 0 }) (tups_up 6 hT' (by kernel_rfl)) (dropC_mem (j := 0) (by kernel_rfl)) ⟨_, rfl⟩
            rintro r H' ⟨tb1', tb2', ht1', ht2', h⟩
            (apply Rets.elim h; intro k aa J)
            intro n4 t4 G4 s
            (run_tac gR 61 402617471690158995737615922268043148084882417562989843448454)
            (refine gp [0, 1, 3, 2, 4, 5, 6, 7, 8, 9] 10 [] 0 (by kernel_rfl) ?_; intro ns17 ts17 Gs17 s17; refine kc 3 (hS a.pA a.pAD (as' ++ [n1 + 285]) (ps ++ [(x, y)]) tb2' hps ht2') (by kernel_rfl) ?_ ?_)
            · exact tups_snoc (k := k9) (j := j9) (o := { cls := .type "tuple", data := .seq #[.str x k9, .str y j9] 0 }) (tups_up 7 hT' (by kernel_rfl)) (dropC_mem (j := 1) (by kernel_rfl)) ⟨_, rfl⟩
            rintro r H' ⟨tb2', ht2', h⟩
            (apply Rets.elim h; intro k aa J)
            intro n5 t5 G5 s
            (run_tac gR 13 2130440)
            (run_tac Mine.gxT 0)
            intro y' he
            obtain rfl : y' = none := by rw [← he]; exact past_concat (xs := lines) (by (run_tac om))
            intro s
            (run_tac gR 41 11783356951065475374818046325298255712346712310406)
            refine gview 7 ⟨.t "list", none, .seqV (lines ++ [.str (allS (ps ++ [(x, y)])) k])⟩ ⟨.t "list", none, .seqV (PySem.W.R.concatR lines (unvv (VV.s (allS (ps ++ [(x, y)]))) k aa))⟩ (by kernel_rfl) (by rw [concatR_app]; simp [unvv]) fun jv J => ?_
            intro s
            (refine gp [0, 1, 2, 3, 4, 5, 6, 7, 8, 9] 10 [] 0 (by kernel_rfl) ?_; intro ns21 ts21 Gs21 s21; refine kc 2 (hR a.pA a.pAD as' (n1 + 285) h6) (by kernel_rfl) ?_ ?_)
            · trivial
            rintro r H' h
            (apply Rets.elim h; intro k6 aa6 J)
            intro n6 t6 G6 s
            (run_tac gR 29 2720832493111597288432071)
            (refine gp [0, 1, 2, 3, 6, 7, 8, 9] 10 [] 0 (by kernel_rfl) ?_; intro ns24 ts24 Gs24 s24; refine kb (by kernel_rfl) (fun _ _ => joinl_ok (sep := ⟨#[10]⟩) (a := a.pL + 281) (lines := lines ++ [.str (allS (ps ++ [(x, y)])) k]) (ls := ls ++ [allS (ps ++ [(x, y)])]) (by simp [hls, vv]) (by kernel_rfl) 5 (by kernel_rfl) (by kernel_rfl) hsz) ?_)
            rintro r ⟨z, kz, rfl, rfl⟩
            intro n7 t7 G7 s
            (run_tac gR 2 0)
            (refine gp [0, 1, 3, 2, 5, 6, 7] 8 [] 0 (by kernel_rfl) ?_; intro ns26 ts26 Gs26 s26; refine ke (by kernel_rfl) ?_)
            exact ⟨lines ++ [.str (allS (ps ++ [(x, y)])) k], tb1', tb2', ht1', ht2', rets 7 (by kernel_rfl)⟩
    · intro hJ
      (run_tac Mine.gxT 0)
      intro z _
      cases z with
      | isTrue h =>
        intro s
        (run_tac gR 1 0)
        (run_tac Mine.gxT 0)
        intro z _
        cases z with
        | isTrue h2 => exact absurd (str_is h2) (fun e => nil_no2 hy e)
        | isFalse h2 =>
          intro s
          (run_tac gR 3 1)
          refine gs (y.cps.toList == ([] : List Nat)) (by kernel_rfl) (fun hd => absurd ((nil_no hy).symm.trans hd) Bool.noConfusion) (fun hd => ?_)
          intro s
          (run_tac gR 1 0)
          exact geq hJ (by kernel_rfl)
      | isFalse h =>
        intro s
        (run_tac gR 3 1)
        refine gs (x.cps.toList == ([32] : List Nat)) (by kernel_rfl) (fun hd => ?_) (fun hd => ?_)
        · intro s
          (run_tac gR 1 0)
          (run_tac Mine.gxT 0)
          intro z _
          cases z with
          | isTrue h2 => exact absurd (str_is h2) (fun e => nil_no2 hy e)
          | isFalse h2 =>
            intro s
            (run_tac gR 3 1)
            refine gs (y.cps.toList == ([] : List Nat)) (by kernel_rfl) (fun hd => absurd ((nil_no hy).symm.trans hd) Bool.noConfusion) (fun hd => ?_)
            intro s
            (run_tac gR 1 0)
            exact geq hJ (by kernel_rfl)
        · intro s
          (run_tac gR 1 0)
          exact geq hJ (by kernel_rfl))
  run_tac sq
set_option maxHeartbeats 0 in
theorem nu_t {vs : List PySem.Value} {ve : Nat} {ns : List Int} (hvs : vs.map vv = ns.map VV.i) (h63 : vs.length ≤ 63) (f : Nat) (hn : NuOk (cx w b1 b2 h₀ d os hk hN) (W2 w b1 b2).params vs ve f) : NuOk (cx w b1 b2 h₀ d os hk hN) (W2 w b1 b2).params vs ve (f + 1) := by
  run_tac sq0
  intro pI pN pFr N k loc hkf hloc
  refine sp_of fun p T GT J hM n t G => ?_
  intro s
  obtain ⟨xk, tk, hxk⟩ : ∃ x t, vs[k]? = some (.int x t) := by
    rcases vs_at hvs k with ⟨h, _⟩ | ⟨x, t, h, _⟩
    · rw [List.getElem?_eq_none_iff] at h; (run_tac om)
    · exact ⟨x, t, h⟩
  rcases hloc with rfl | ⟨j, rfl⟩ <;> (
    obtain ⟨kI, hkI⟩ : ∃ kI : Int, kI = k := ⟨_, rfl⟩
    obtain ⟨rI, hrI⟩ : ∃ rI : Int, rI = (f : Int) + 1 := ⟨_, rfl⟩
    refine gview 0 ⟨.t "range_iterator", none, .fields [.i kI, .i rI, .i 1]⟩ ⟨.t "range_iterator", none, .fields [.i k, .i ((f + 1 : Nat) : Int), .i 1]⟩ (by kernel_rfl) (by rw [hkI, hrI]; rfl) fun jv J => ?_
    intro s
    (run_tac gR 8 17043521)
    (run_tac Mine.gxT 0)
    intro z hz
    cases z with
    | isTrue h => exact absurd h (by (run_tac om))
    | isFalse h =>
    intro s
    (run_tac gR 23 857828449587265)
    refine gint (by kernel_rfl) fun e he => ?_
    have he2 : e = Int.fmod kI 4 := he.trans (by kernel_rfl)
    rcases mod4 hkI he2 with rfl | rfl | rfl | rfl <;> (
      intro s
      (run_tac gR 20 73201364280811650)
      (run_tac Mine.gxT 0)
      intro z hz
      cases z with
      | isTrue h => exact absurd ((fits_no' hkI (by (run_tac om))).symm.trans h) (by decide)
      | isFalse h =>
        intro s
        (run_tac gR 0 0)
        (run_tac Mine.gxT 50)
        intro z hz
        obtain rfl : z = Int.ofNat k := by rw [← hz]; exact hkI
        intro s
        (run_tac gR 1 4)
        (run_tac Mine.gxT 0)
        intro z hz
        obtain rfl : z = some (k, .int xk tk) := by rw [← hz]; simp [hxk]
        intro s
        (run_tac gR 16 2181570690)
        refine gview 0 ⟨.t "range_iterator", none, .fields [.i ((k + 1 : Nat) : Int), .i (f : Int), .i 1]⟩ ⟨.t "range_iterator", none, .fields [.i (kI + 1), .i (rI - 1), .i 1]⟩ (by kernel_rfl) (by rw [hkI, hrI, Int.add_sub_cancel]; rfl) fun jv J => ?_
        refine gview 2 ⟨.t "frame", none, .dict [(.s sScript, .r 280), (.s sNumbers, .r (pN + 281)), (.s sK, .i (k : Int))]⟩ ⟨.t "frame", none, .dict [(.s sScript, .r 280), (.s sNumbers, .r (pN + 281)), (.s sK, .i kI)]⟩ (by kernel_rfl) (by rw [hkI]) fun jv2 J2 => ?_
        intro s
        (refine gp [0, 1, 2, 3] 4 [] 0 (by kernel_rfl) ?_; intro ns7 ts7 Gs7 s7; refine ka 4 (hn pI pN pFr (nsAt (‹Cf› : Cf).cells 1) (k + 1) [(.s sK, .i (k : Int))] (by (run_tac om)) (.inr ⟨_, rfl⟩)) (by kernel_rfl) ?_ ?_)
        · trivial
        intro r H' h
        exact h))
  run_tac sq
set_option maxHeartbeats 0 in
theorem nu_end {vs : List PySem.Value} {ve : Nat} : NuOk (cx w b1 b2 h₀ d os hk hN) (W2 w b1 b2).params vs ve 0 := by
  run_tac sq0
  intro pI pN pFr N k loc hkf hloc
  refine sp_of fun p T GT J hM n t G => ?_
  intro s
  rcases hloc with rfl | ⟨j, rfl⟩
  · (
      (run_tac gR 15 1090785345)
      (refine gp [3, 4, 5] 6 [] 0 (by kernel_rfl) ?_; intro ns54 ts54 Gs54 s54; refine ke (by kernel_rfl) ?_)
      exact ⟨N, [], .inl rfl, flows 3 (by kernel_rfl)⟩)
  · (
      (run_tac gR 15 1090785345)
      (refine gp [3, 4, 5] 6 [] 0 (by kernel_rfl) ?_; intro ns56 ts56 Gs56 s56; refine ke (by kernel_rfl) ?_)
      exact ⟨N, _, .inr ⟨j, rfl⟩, flows 3 (by kernel_rfl)⟩)
  run_tac sq
set_option maxHeartbeats 0 in
theorem numbers_t {vs : List PySem.Value} {ve : Nat} {ns : List Int} (hvs : vs.map vv = ns.map VV.i) (h63 : vs.length ≤ 63) (hn : NuOk (cx w b1 b2 h₀ d os hk hN) (W2 w b1 b2).params vs ve vs.length) :
    ∀ B, okB [[0, 3]] B = true → Sp (cx w b1 b2 h₀ d os hk hN) (.call (.ref 231) ⟨[.ref 280], []⟩) B [(280, ⟨.t "list", none, .exact (.seq ⟨vs⟩ ve)⟩)] noP (fun T GT r H => ∃ (l : Nat) (N : NS), Rets (.r (l + 281)) [(l + 281, ⟨.t "list", none, .seqV N.vals⟩), (280, ⟨.t "list", none, .exact (.seq ⟨vs⟩ ve)⟩)] T GT r H) := by
  run_tac sq0
  refine sp_of fun p T GT J hM n t G => ?_
  intro s
  (
    (run_tac gR 42 241456940562901034867439697920)
    refine gint (by kernel_rfl) fun m hm => ?_
    have hm2 : m = (vs.length : Int) := hm.trans (by kernel_rfl)
    intro s
    (run_tac gR 2 0)
    (run_tac Mine.gxT 0)
    intro z _
    cases z with
    | isTrue h => exact absurd h (by (run_tac om))
    | isFalse h =>
    intro s
    (run_tac gR 0 0)
    (run_tac Mine.gxT 0)
    intro z _
    cases z with
    | isTrue h => exact absurd h (by (run_tac om))
    | isFalse h =>
    intro s
    (run_tac gR 32 1171221845949812801)
    (run_tac Mine.gxT 0)
    intro z _
    cases z with
    | isTrue h => exact absurd ((congrArg (fun b => !b) (smallU (m := m) (by (run_tac om)) (by (run_tac om)))).symm.trans h) (by decide)
    | isFalse h =>
    intro s
    (run_tac gR 2 0)
    refine gview 0 ⟨.t "range_iterator", none, .fields [.i ((0 : Nat) : Int), .i (vs.length : Int), .i 1]⟩ (rngItU m) (by kernel_rfl) (by rw [itU (by (run_tac om)) (by (run_tac om)), hm2]; rfl) fun jv J => ?_
    intro s
    (run_tac gR 1 1)
    (refine gp [0, 2, 3, 4] 5 [] 0 (by kernel_rfl) ?_; intro ns63 ts63 Gs63 s63)
    (refine gp [0, 1, 2, 3] 4 [] 0 (by kernel_rfl) ?_; intro ns64 ts64 Gs64 s64; refine kc 4 (hn (n + 3) (n + 1) n (nsAt (‹Cf› : Cf).cells 1) 0 [] (by simp) (.inl rfl)) (by kernel_rfl) ?_ ?_)
    · trivial
    rintro r H' ⟨N2, loc2, hl2, h⟩
    (apply Flows.elim h; intro J)
    intro n2 t2 G2 s
    rcases hl2 with rfl | ⟨j, rfl⟩ <;> (
      (run_tac gR 3 2)
      (refine gp [0, 2] 3 [] 0 (by kernel_rfl) ?_; intro ns67 ts67 Gs67 s67; refine ke (by kernel_rfl) ?_)
      exact ⟨n + 1, N2, rets 2 (by kernel_rfl)⟩))
  run_tac sq
set_option maxHeartbeats 0 in
theorem lexer_t {tx : Str} {kt : Tok} {pL : Nat} :
    ∀ B, okB [[1, 0, 3]] B = true → Sp (cx w b1 b2 h₀ d os hk hN) (.call (.ref 274) ⟨[.str tx kt, .ref (pL + 281)], []⟩) B [(269, ⟨.none, none, .exact (.fields ⟨[]⟩)⟩), (pL + 281, ⟨.t "list", none, .seq [.i 0]⟩)] noP (lexQ (W2 w b1 b2).params tx pL) := by
  run_tac sq0
  refine sp_of fun p T GT J hM n t G => ?_
  intro s
  (
    (run_tac gR 279 10380864417105143006613909667555594353439308766886801886913201678175913257053955489796634720032431611692049684003866305790327549155981290026535254818561543024886636824783321372459210917439074687140564199498685904330078450095779168735048230176004807236271726253234719034119219963611079501794516992)
    (refine gp [3, 24, 0, 2, 13, 4, 5, 6, 21, 20, 23, 14] 25 [] 0 (by kernel_rfl) ?_; intro ns2 ts2 Gs2 s2)
    refine ke (by kernel_rfl) ?_
    exact ⟨⟨n + 20, n + 19, n + 22, n + 9, n + 18, n + 17, n + 16, n + 1, n + 2, pL, fdAt (‹Cf› : Cf).cells 4, strTok (fldAt (‹Cf› : Cf).cells 7) 0, strTok (fldAt (‹Cf› : Cf).cells 7) 1, tail2 (fldAt (‹Cf› : Cf).cells 7)⟩,
      ⟨n + 8, n + 16, strTok (fldAt (‹Cf› : Cf).cells 11) 0, strTok (fldAt (‹Cf› : Cf).cells 11) 1, tail2 (fldAt (‹Cf› : Cf).cells 11), strTok (fldAt (‹Cf› : Cf).cells 7) 0, strTok (fldAt (‹Cf› : Cf).cells 7) 1, tail2 (fldAt (‹Cf› : Cf).cells 7)⟩, ⟨rfl, rfl, rfl, rfl, rfl⟩, rets 12 (by kernel_rfl)⟩)
  run_tac sq
set_option maxHeartbeats 0 in
theorem lexer2_t {tx : Str} {kt : Tok} {pL : Nat} {c : CS} :
    ∀ B, okB [[1, 0, 3]] B = true → Sp (cx w b1 b2 h₀ d os hk hN) (.call (.ref 274) ⟨[.str tx kt, .ref (pL + 281)], []⟩) B (codeX c ++ [(pL + 281, ⟨.t "list", none, .seq [.i 0]⟩)]) noP (lexQ2 (W2 w b1 b2).params tx pL c) := by
  run_tac sq0
  (
    refine sp_of fun p T GT J hM n t G => ?_
    intro s
    (
      (run_tac gR 247 151061458994883913060969057078991235953279956693394369895587466863448400647815367698736877646769158479467291676029945749765139031747549452506576996799580855075133685383237336245062919878387397142659235389127365551104279631569985069014338229512357697619009550725267254773575851138621440)
      (refine gp [3, 14, 0, 2, 7, 4, 5, 13, 9, 8, 11, 12] 15 [] 0 (by kernel_rfl) ?_; intro ns4 ts4 Gs4 s4)
      refine ke (by kernel_rfl) ?_
      exact ⟨⟨n + 8, n + 7, n + 10, n + 3, n + 6, n + 5, c.c2, n + 1, n + 2, pL, fdAt (‹Cf› : Cf).cells 4, c.k1, c.k2, c.m2⟩, ⟨rfl, rfl, rfl, rfl, rfl⟩, rets 12 (by kernel_rfl)⟩))
  run_tac sq
set_option maxHeartbeats 0 in
theorem word_t (hSg : SgOk (cx w b1 b2 h₀ d os hk hN)) : WordOk (cx w b1 b2 h₀ d os hk hN) := by
  run_tac sq0
  intro m k
  refine sp_of fun p T GT J hM n t G => ?_
  intro s
  (
    cases b1
    · (run_tac gR 106 465166039028908162857595816983322590454626413693349348397901267865600)
      refine gint (by kernel_rfl) fun e0 he => ?_
      have he0 : e0 = digit m 0 := he.trans (by kernel_rfl)
      intro s
      (run_tac gR 3 0)
      (refine gp [0, 1, 2, 4, 5] 6 [] 0 (by kernel_rfl) ?_; intro ns3 ts3 Gs3 s3; refine ko 0 (hSg e0 (argTok 0 (codeOf (‹Cf› : Cf).t)) (argTok 1 (codeOf (‹Cf› : Cf).t)) (he0 ▸ (digit_lt m 0).1) (he0 ▸ (digit_lt m 0).2)) (by kernel_rfl) ?_ ?_)
      · trivial
      intro r H' h
      (apply Rets.elim h; intro k0 a0 J)
      intro n0 t0 G0 s
      (run_tac gR 51 5388772348214348213733982478466)
      refine gint (by kernel_rfl) fun e1 he => ?_
      have he1 : e1 = digit m 1 := he.trans (by kernel_rfl)
      intro s
      (run_tac gR 3 0)
      (refine gp [0, 1, 2, 3, 4] 5 [] 0 (by kernel_rfl) ?_; intro ns7 ts7 Gs7 s7; refine ko 0 (hSg e1 (argTok 0 (codeOf (‹Cf› : Cf).t)) (argTok 1 (codeOf (‹Cf› : Cf).t)) (he1 ▸ (digit_lt m 1).1) (he1 ▸ (digit_lt m 1).2)) (by kernel_rfl) ?_ ?_)
      · trivial
      intro r H' h
      (apply Rets.elim h; intro k1 a1 J)
      intro n1 t1 G1 s
      (run_tac gR 51 5388772348214348213733982478466)
      refine gint (by kernel_rfl) fun e2 he => ?_
      have he2 : e2 = digit m 2 := he.trans (by kernel_rfl)
      intro s
      (run_tac gR 3 0)
      (refine gp [0, 1, 2, 3, 4] 5 [] 0 (by kernel_rfl) ?_; intro ns11 ts11 Gs11 s11; refine ko 0 (hSg e2 (argTok 0 (codeOf (‹Cf› : Cf).t)) (argTok 1 (codeOf (‹Cf› : Cf).t)) (he2 ▸ (digit_lt m 2).1) (he2 ▸ (digit_lt m 2).2)) (by kernel_rfl) ?_ ?_)
      · trivial
      intro r H' h
      (apply Rets.elim h; intro k2 a2 J)
      intro n2 t2 G2 s
      (run_tac gR 51 5388772348214348213733982478466)
      refine gint (by kernel_rfl) fun e3 he => ?_
      have he3 : e3 = digit m 3 := he.trans (by kernel_rfl)
      intro s
      (run_tac gR 3 0)
      (refine gp [0, 1, 2, 3, 4] 5 [] 0 (by kernel_rfl) ?_; intro ns15 ts15 Gs15 s15; refine ko 0 (hSg e3 (argTok 0 (codeOf (‹Cf› : Cf).t)) (argTok 1 (codeOf (‹Cf› : Cf).t)) (he3 ▸ (digit_lt m 3).1) (he3 ▸ (digit_lt m 3).2)) (by kernel_rfl) ?_ ?_)
      · trivial
      intro r H' h
      (apply Rets.elim h; intro k3 a3 J)
      intro n3 t3 G3 s
      (run_tac gR 37 78594570212965130636370050)
      (refine gp [] 7 [] 0 (by kernel_rfl) ?_; intro ns18 ts18 Gs18 s18)
      refine ke (by kernel_rfl) ?_
      rw [show wordOf m = ⟨#[sgN e0, sgN e1, sgN e2, sgN e3]⟩ by rw [he0, he1, he2, he3]; rfl]
      exact rets 0 (by kernel_rfl)
    · (run_tac gR 96 433219633092086913862820481307819419110576073628814344982528)
      refine gint (by kernel_rfl) fun e0 he => ?_
      have he0 : e0 = digit m 0 := he.trans (by kernel_rfl)
      intro s
      (run_tac gR 3 0)
      (refine gp [0, 1, 2, 4, 5] 6 [] 0 (by kernel_rfl) ?_; intro ns21 ts21 Gs21 s21; refine ko 0 (hSg e0 (argTok 0 (codeOf (‹Cf› : Cf).t)) (argTok 1 (codeOf (‹Cf› : Cf).t)) (he0 ▸ (digit_lt m 0).1) (he0 ▸ (digit_lt m 0).2)) (by kernel_rfl) ?_ ?_)
      · trivial
      intro r H' h
      (apply Rets.elim h; intro k0 a0 J)
      intro n0 t0 G0 s
      (run_tac gR 51 5388772348214348213733982478466)
      refine gint (by kernel_rfl) fun e1 he => ?_
      have he1 : e1 = digit m 1 := he.trans (by kernel_rfl)
      intro s
      (run_tac gR 3 0)
      (refine gp [0, 1, 2, 3, 4] 5 [] 0 (by kernel_rfl) ?_; intro ns25 ts25 Gs25 s25; refine ko 0 (hSg e1 (argTok 0 (codeOf (‹Cf› : Cf).t)) (argTok 1 (codeOf (‹Cf› : Cf).t)) (he1 ▸ (digit_lt m 1).1) (he1 ▸ (digit_lt m 1).2)) (by kernel_rfl) ?_ ?_)
      · trivial
      intro r H' h
      (apply Rets.elim h; intro k1 a1 J)
      intro n1 t1 G1 s
      (run_tac gR 51 5388772348214348213733982478466)
      refine gint (by kernel_rfl) fun e2 he => ?_
      have he2 : e2 = digit m 2 := he.trans (by kernel_rfl)
      intro s
      (run_tac gR 3 0)
      (refine gp [0, 1, 2, 3, 4] 5 [] 0 (by kernel_rfl) ?_; intro ns29 ts29 Gs29 s29; refine ko 0 (hSg e2 (argTok 0 (codeOf (‹Cf› : Cf).t)) (argTok 1 (codeOf (‹Cf› : Cf).t)) (he2 ▸ (digit_lt m 2).1) (he2 ▸ (digit_lt m 2).2)) (by kernel_rfl) ?_ ?_)
      · trivial
      intro r H' h
      (apply Rets.elim h; intro k2 a2 J)
      intro n2 t2 G2 s
      (run_tac gR 51 5388772348214348213733982478466)
      refine gint (by kernel_rfl) fun e3 he => ?_
      have he3 : e3 = digit m 3 := he.trans (by kernel_rfl)
      intro s
      (run_tac gR 3 0)
      (refine gp [0, 1, 2, 3, 4] 5 [] 0 (by kernel_rfl) ?_; intro ns33 ts33 Gs33 s33; refine ko 0 (hSg e3 (argTok 0 (codeOf (‹Cf› : Cf).t)) (argTok 1 (codeOf (‹Cf› : Cf).t)) (he3 ▸ (digit_lt m 3).1) (he3 ▸ (digit_lt m 3).2)) (by kernel_rfl) ?_ ?_)
      · trivial
      intro r H' h
      (apply Rets.elim h; intro k3 a3 J)
      intro n3 t3 G3 s
      (run_tac gR 37 78594570212965130636370050)
      (refine gp [] 7 [] 0 (by kernel_rfl) ?_; intro ns36 ts36 Gs36 s36)
      refine ke (by kernel_rfl) ?_
      rw [show wordOf m = ⟨#[sgN e0, sgN e1, sgN e2, sgN e3]⟩ by rw [he0, he1, he2, he3]; rfl]
      exact rets 0 (by kernel_rfl))
  run_tac sq
set_option maxHeartbeats 0 in
theorem sg_t : SgOk (cx w b1 b2 h₀ d os hk hN) := by
  run_tac sq0
  (
  intro e k j h0 h4
  refine sp_of fun p T GT J hM n t G => ?_
  intro s
  (run_tac gR 0 0)
  (run_tac Mine.gxT 0)
  intro z _
  cases z with
  | isTrue h => exact absurd h (by simp; (run_tac om))
  | isFalse h =>
    intro s
    (run_tac gR 0 0)
    (run_tac Mine.gxT 0)
    intro z hz
    obtain rfl : z = some (sgN e) := by
      rw [← hz]
      obtain rfl | rfl | rfl | rfl : e = 0 ∨ e = 1 ∨ e = 2 ∨ e = 3 := by (run_tac om)
      all_goals rfl
    intro s
    (run_tac gR 1 0)
    (refine gp [] 0 [] 0 (by kernel_rfl) ?_; intro ns4 ts4 Gs4 s4)
    refine ke (by kernel_rfl) ?_
    exact rets 0 (by kernel_rfl)
  )
  run_tac sq
set_option maxHeartbeats 0 in
theorem bare_t : BareOk (cx w b1 b2 h₀ d os hk hN) := by
  run_tac sq0
  intro c m k j
  refine sp_of fun p T GT J hM n t G => ?_
  intro s
  (
    (run_tac gR 22 1171221844876066816)
    refine gs (([c] : List Nat) == [120]) (by kernel_rfl) (fun hc => ?_) (fun hc => ?_)
    · intro s
      (run_tac gR 2 0)
      (refine gp [] 1 [] 0 (by kernel_rfl) ?_; intro ns3 ts3 Gs3 s3)
      refine ke (by kernel_rfl) ?_
      rw [show bareB c m = true by have : c = 120 := (by simpa using hc); rw [this]; rfl]
      exact rets 0 (by kernel_rfl)
    · intro s
      (run_tac gR 9 65)
      refine gs (([c] : List Nat) == [32]) (by kernel_rfl) (fun hd => ?_) (fun hd => ?_)
      · intro s
        (run_tac gR 9 65)
        refine gs (decide (m = 1)) (by kernel_rfl) (fun he => ?_) (fun he => ?_)
        · intro s
          (run_tac gR 1 0)
          (refine gp [] 1 [] 0 (by kernel_rfl) ?_; intro ns7 ts7 Gs7 s7)
          refine ke (by kernel_rfl) ?_
          rw [show bareB c m = true by have h1 : c = 32 := (by simpa using hd); have h2 : m = 1 := of_decide_eq_true he; rw [h1, h2]; rfl]
          exact rets 0 (by kernel_rfl)
        · intro s
          (run_tac gR 1 0)
          (refine gp [] 1 [] 0 (by kernel_rfl) ?_; intro ns9 ts9 Gs9 s9)
          refine ke (by kernel_rfl) ?_
          rw [show bareB c m = false by have h1 : c = 32 := (by simpa using hd); have h2 : ¬ m = 1 := of_decide_eq_false he; unfold bareB; rw [h1]; simpa using h2]
          exact rets 0 (by kernel_rfl)
      · intro s
        (run_tac gR 2 0)
        (refine gp [] 1 [] 0 (by kernel_rfl) ?_; intro ns11 ts11 Gs11 s11)
        refine ke (by kernel_rfl) ?_
        rw [show bareB c m = false by have h1 : ¬ c = 32 := (by simpa using hd); have h2 : ¬ c = 120 := (by simpa using hc); unfold bareB; simp [h1, h2]]
        exact rets 0 (by kernel_rfl))
  run_tac sq
set_option maxHeartbeats 0 in
theorem snx_t : SNx (cx w b1 b2 h₀ d os hk hN) := by
  run_tac sq0
  intro pI idx c cs hc
  refine sp_of fun p T GT J hP n t G => ?_
  intro s
  (run_tac gR 2 65)
  (run_tac Mine.gxT 0)
  intro z hz
  obtain rfl : z = some c := by rw [← hz]; simpa using hc
  intro s
  (run_tac gR 3 65)
  (refine gp [0] 1 [] 0 (by kernel_rfl) ?_; intro ns3 ts3 Gs3 s3)
  refine ke (by kernel_rfl) ?_
  exact rets 1 (by kernel_rfl)
  run_tac sq
set_option maxHeartbeats 0 in
theorem wr_z (m : Int) : WrOk (cx w b1 b2 h₀ d os hk hN) (W2 w b1 b2).params m [] := by
  run_tac sq0
  intro pI pA pC pFr pM idx cs ys loc hcs hyl hloc
  refine sp_of fun pp T GT J hP n t G => ?_
  intro s
  have hno := end_of hcs
  obtain ⟨l0, hl0⟩ : ∃ l, l = loc := ⟨_, rfl⟩
  rcases hloc with rfl | ⟨y, rfl⟩ <;> (
    (run_tac gR 7 266305)
    (run_tac Mine.gxT 0)
    intro y' he
    obtain rfl : y' = none := by rw [← he]; simpa using hno
    intro s
    (run_tac gR 9 4161)
    (refine gp [3, 4, 5] 6 [] 0 (by kernel_rfl) ?_; intro ns6 ts6 Gs6 s6)
    refine ke (by kernel_rfl) ?_
    exact ⟨ys, lOf hl0, by simp [escV], .inl ⟨rfl, rfl⟩, flows 3 (by kernel_rfl)⟩)
  run_tac sq
set_option maxHeartbeats 0 in
theorem wr_s (hAp : AppL (cx w b1 b2 h₀ d os hk hN)) (hNx : SNx (cx w b1 b2 h₀ d os hk hN)) (hBr : BareOk (cx w b1 b2 h₀ d os hk hN)) (m : Int) (c : Nat) (rest : List Nat) (hn : WrOk (cx w b1 b2 h₀ d os hk hN) (W2 w b1 b2).params m rest) : WrOk (cx w b1 b2 h₀ d os hk hN) (W2 w b1 b2).params m (c :: rest) := by
  run_tac sq0
  intro pI pA pC pFr pM idx cs ys loc hcs hyl hloc
  refine sp_of fun pp T GT J hP n t G => ?_
  intro s
  obtain ⟨hc, hrest⟩ := at_of hcs
  rcases hloc with rfl | ⟨y, rfl⟩ <;> (
    (run_tac gR 4 65)
    (refine gp [0, 1, 2, 3] 4 [] 0 (by kernel_rfl) ?_; intro ns11 ts11 Gs11 s11; refine ko 1 (hNx pI idx c cs hc) (by kernel_rfl) ?_ ?_)
    · trivial
    intro r H' h
    (apply Rets.elim h; intro k9 a9 J)
    intro n1 t1 G1 s
    (run_tac gR 16 4345311424)
    (refine gp [0, 1, 2, 3] 4 [] 0 (by kernel_rfl) ?_; intro ns14 ts14 Gs14 s14; refine kc 0 (hBr c m (argTok 0 (codeOf (‹Cf› : Cf).t)) (argTok 1 (codeOf (‹Cf› : Cf).t))) (by kernel_rfl) ?_ ?_)
    · trivial
    intro r H' h
    cases hb : bareB c m with
    | true =>
      rw [hb] at h
      (apply Rets.elim h; intro k8 a8 J)
      intro n2 t2 G2 s
      (run_tac gR 6 131)
      (refine gp [1, 0, 2, 3] 4 [] 0 (by kernel_rfl) ?_; intro ns17 ts17 Gs17 s17; refine ko 1 (hAp pA ys (.str ⟨⟨[c]⟩⟩ (argTok 1 (codeOf (‹Cf› : Cf).t))) (by simp only [List.length_cons] at hyl; (run_tac om))) (by kernel_rfl) ?_ ?_)
      · trivial
      intro r H' h
      obtain ⟨w0, hw0⟩ : ∃ w0 : PySem.Value, w0 = .str ⟨⟨[c]⟩⟩ (argTok 1 (codeOf (‹Cf› : Cf).t)) := ⟨_, rfl⟩
      have hv0 : vv w0 = VV.s ⟨⟨[c]⟩⟩ := by rw [hw0]; rfl
      rw [← hw0] at h
      (apply Rets.elim h; intro k7 a7 J)
      intro n3 t3 G3 s
      (run_tac gR 1 0)
      (refine gp [1, 0, 2, 3] 4 [] 0 (by kernel_rfl) ?_; intro ns20 ts20 Gs20 s20; refine kaw (T := (T)) (GT := GT) 4 ((hn pI pA pC pFr pM (idx + 1) cs (ys ++ [w0]) [(.s sSign, .s ⟨#[c]⟩)] hrest (by simp only [List.length_cons, List.length_append, List.length_nil] at hyl ⊢; (run_tac om)) (.inr ⟨_, rfl⟩))) (by kernel_rfl) ?_ ?_)
      · trivial
      rintro r H' ⟨ys', loc', h1, h2, h3⟩
      refine ⟨ys', loc', h1.trans (escV_step (esc_yes hb) hv0), .inr ?_, h3⟩
      rcases h2 with ⟨rfl, _⟩ | h2
      · exact ⟨_, rfl⟩
      · exact h2
    | false =>
      rw [hb] at h
      (apply Rets.elim h; intro k8 a8 J)
      intro n2 t2 G2 s
      (run_tac gR 13 131)
      (refine gp [1, 0, 2, 3] 4 [] 0 (by kernel_rfl) ?_; intro ns23 ts23 Gs23 s23; refine ko 1 (hAp pA ys (.str ⟨⟨[92, c]⟩⟩ (argTok 1 (codeOf (‹Cf› : Cf).t))) (by simp only [List.length_cons] at hyl; (run_tac om))) (by kernel_rfl) ?_ ?_)
      · trivial
      intro r H' h
      obtain ⟨w0, hw0⟩ : ∃ w0 : PySem.Value, w0 = .str ⟨⟨[92, c]⟩⟩ (argTok 1 (codeOf (‹Cf› : Cf).t)) := ⟨_, rfl⟩
      have hv0 : vv w0 = VV.s ⟨⟨[92, c]⟩⟩ := by rw [hw0]; rfl
      rw [← hw0] at h
      (apply Rets.elim h; intro k7 a7 J)
      intro n3 t3 G3 s
      (run_tac gR 1 0)
      (refine gp [1, 0, 2, 3] 4 [] 0 (by kernel_rfl) ?_; intro ns26 ts26 Gs26 s26; refine kaw (T := (T)) (GT := GT) 4 ((hn pI pA pC pFr pM (idx + 1) cs (ys ++ [w0]) [(.s sSign, .s ⟨#[c]⟩)] hrest (by simp only [List.length_cons, List.length_append, List.length_nil] at hyl ⊢; (run_tac om)) (.inr ⟨_, rfl⟩))) (by kernel_rfl) ?_ ?_)
      · trivial
      rintro r H' ⟨ys', loc', h1, h2, h3⟩
      refine ⟨ys', loc', h1.trans (escV_step (esc_no hb) hv0), .inr ?_, h3⟩
      rcases h2 with ⟨rfl, _⟩ | h2
      · exact ⟨_, rfl⟩
      · exact h2)
  run_tac sq
set_option maxHeartbeats 0 in
theorem written_t (hn : ∀ m cs, WrOk (cx w b1 b2 h₀ d os hk hN) (W2 w b1 b2).params m cs) : WrittenOk (cx w b1 b2 h₀ d os hk hN) := by
  run_tac sq0
  intro cs m k j hcs hne h4
  refine sp_of fun p T GT J hM n t G => ?_
  intro s
  (run_tac gR 25 18581816336711680)
  refine gview 0 ⟨.t "str_ascii_iterator", none, .fields [.s ⟨⟨cs⟩⟩, .i ((0 : Nat) : Int)]⟩ ⟨.t (if (true && (⟨⟨cs⟩⟩ : Str).cps.all (· < 128)) then "str_ascii_iterator" else "str_iterator"), none, .fields [.s ⟨⟨cs⟩⟩, .i 0]⟩ (by kernel_rfl) (by rw [ascii_all hcs]; rfl) fun jv J => ?_
  intro s
  (
    cases b1
    · (run_tac gR 15 209397231617)
      (refine gp [2, 1, 0, 3, 4] 5 [] 0 (by kernel_rfl) ?_; intro ns48 ts48 Gs48 s48; refine ko 4 ((hn m cs) (n + 2) (n + 3) (n + 4) n (n + 1) 0 cs [] [] rfl (by simp; (run_tac om)) (.inl rfl)) (by kernel_rfl) ?_ ?_)
      · trivial
      rintro r H' ⟨ys, loc, hys, ⟨_, hloc⟩ | ⟨v, rfl⟩, h⟩
      · exact absurd hloc hne
      (apply Flows.elim h; intro J)
      intro n1 t1 G1 s
      (run_tac gR 8 8322)
      (refine gp [0, 2, 3] 4 [] 0 (by kernel_rfl) ?_; intro ns51 ts51 Gs51 s51; refine kb (by kernel_rfl) (fun _ _ => joinl_ok (sep := ⟨#[]⟩) (a := n + 3 + 281) (lines := ys) (ls := (cs.map fun c => esc c m).map fun x => (⟨⟨x⟩⟩ : Str)) (by rw [hys, List.map_nil, List.nil_append, escV_eq]) (by kernel_rfl) 0 (by kernel_rfl) (by kernel_rfl) (by have := escs_le m cs; have h9 := sizeLine_eq; rw [show (⟨#[]⟩ : Str).length = 0 from rfl]; (run_tac om))) ?_)
      rintro r ⟨z, kz, rfl, hz⟩
      obtain rfl : z = ⟨⟨(cs.map fun c => esc c m).flatten⟩⟩ := hz.trans (glued_flat _)
      intro n7 t7 G7 s
      (run_tac gR 17 17313984)
      refine gs (decide (m = 0)) (by kernel_rfl) (fun he => ?_) (fun he => ?_)
      · intro s
        (run_tac gR 3 3)
        (refine gp [] 3 [] 0 (by kernel_rfl) ?_; intro ns54 ts54 Gs54 s54)
        refine ke (by kernel_rfl) ?_
        rw [show writ cs m = (cs.map fun c => esc c m).flatten from if_pos (of_decide_eq_true he)]
        exact rets 0 (by kernel_rfl)
      · intro s
        have hfl := flat_le m cs
        have h9 := sizeLine_eq
        (run_tac gR 7 3)
        (refine gp [1, 2] 3 [] 0 (by kernel_rfl) ?_; intro ns56 ts56 Gs56 s56; refine kb (by kernel_rfl) (fun _ _ => stradd_ok (x := ⟨⟨[34]⟩⟩) (y := ⟨⟨(cs.map fun c => esc c m).flatten⟩⟩) (by kernel_rfl) (by rw [len_app]; show 1 + _ ≤ _; simp only [Str.length, List.size_toArray]; (run_tac om))) ?_)
        rintro _ ⟨z, k2, rfl, hz⟩
        obtain rfl : z = ⟨⟨34 :: (cs.map fun c => esc c m).flatten⟩⟩ := hz.trans (app_list _ _)
        intro n8 t8 G8 s
        (run_tac gR 5 0)
        (refine gp [0, 1] 2 [] 0 (by kernel_rfl) ?_; intro ns58 ts58 Gs58 s58; refine kb (by kernel_rfl) (fun _ _ => stradd_ok (x := ⟨⟨34 :: (cs.map fun c => esc c m).flatten⟩⟩) (y := ⟨⟨[34]⟩⟩) (by kernel_rfl) (by rw [len_app]; simp only [Str.length, List.size_toArray, List.length_cons, List.length_nil]; (run_tac om))) ?_)
        rintro _ ⟨z, k3, rfl, hz⟩
        obtain rfl : z = ⟨⟨34 :: (cs.map fun c => esc c m).flatten ++ [34]⟩⟩ := hz.trans (app_list _ _)
        intro n9 t9 G9 s
        (run_tac gR 1 0)
        (refine gp [] 2 [] 0 (by kernel_rfl) ?_; intro ns60 ts60 Gs60 s60)
        refine ke (by kernel_rfl) ?_
        rw [show writ cs m = 34 :: (cs.map fun c => esc c m).flatten ++ [34] from if_neg (of_decide_eq_false he)]
        exact rets 0 (by kernel_rfl)
    · (run_tac gR 5 1)
      (refine gp [2, 1, 0, 3, 4] 5 [] 0 (by kernel_rfl) ?_; intro ns62 ts62 Gs62 s62; refine ko 4 ((hn m cs) (n + 2) (n + 3) (n + 4) n (n + 1) 0 cs [] [] rfl (by simp; (run_tac om)) (.inl rfl)) (by kernel_rfl) ?_ ?_)
      · trivial
      rintro r H' ⟨ys, loc, hys, ⟨_, hloc⟩ | ⟨v, rfl⟩, h⟩
      · exact absurd hloc hne
      (apply Flows.elim h; intro J)
      intro n1 t1 G1 s
      (run_tac gR 8 8322)
      (refine gp [0, 2, 3] 4 [] 0 (by kernel_rfl) ?_; intro ns65 ts65 Gs65 s65; refine kb (by kernel_rfl) (fun _ _ => joinl_ok (sep := ⟨#[]⟩) (a := n + 3 + 281) (lines := ys) (ls := (cs.map fun c => esc c m).map fun x => (⟨⟨x⟩⟩ : Str)) (by rw [hys, List.map_nil, List.nil_append, escV_eq]) (by kernel_rfl) 0 (by kernel_rfl) (by kernel_rfl) (by have := escs_le m cs; have h9 := sizeLine_eq; rw [show (⟨#[]⟩ : Str).length = 0 from rfl]; (run_tac om))) ?_)
      rintro r ⟨z, kz, rfl, hz⟩
      obtain rfl : z = ⟨⟨(cs.map fun c => esc c m).flatten⟩⟩ := hz.trans (glued_flat _)
      intro n7 t7 G7 s
      (run_tac gR 17 17313984)
      refine gs (decide (m = 0)) (by kernel_rfl) (fun he => ?_) (fun he => ?_)
      · intro s
        (run_tac gR 3 3)
        (refine gp [] 3 [] 0 (by kernel_rfl) ?_; intro ns68 ts68 Gs68 s68)
        refine ke (by kernel_rfl) ?_
        rw [show writ cs m = (cs.map fun c => esc c m).flatten from if_pos (of_decide_eq_true he)]
        exact rets 0 (by kernel_rfl)
      · intro s
        have hfl := flat_le m cs
        have h9 := sizeLine_eq
        (run_tac gR 7 3)
        (refine gp [1, 2] 3 [] 0 (by kernel_rfl) ?_; intro ns70 ts70 Gs70 s70; refine kb (by kernel_rfl) (fun _ _ => stradd_ok (x := ⟨⟨[34]⟩⟩) (y := ⟨⟨(cs.map fun c => esc c m).flatten⟩⟩) (by kernel_rfl) (by rw [len_app]; show 1 + _ ≤ _; simp only [Str.length, List.size_toArray]; (run_tac om))) ?_)
        rintro _ ⟨z, k2, rfl, hz⟩
        obtain rfl : z = ⟨⟨34 :: (cs.map fun c => esc c m).flatten⟩⟩ := hz.trans (app_list _ _)
        intro n8 t8 G8 s
        (run_tac gR 5 0)
        (refine gp [0, 1] 2 [] 0 (by kernel_rfl) ?_; intro ns72 ts72 Gs72 s72; refine kb (by kernel_rfl) (fun _ _ => stradd_ok (x := ⟨⟨34 :: (cs.map fun c => esc c m).flatten⟩⟩) (y := ⟨⟨[34]⟩⟩) (by kernel_rfl) (by rw [len_app]; simp only [Str.length, List.size_toArray, List.length_cons, List.length_nil]; (run_tac om))) ?_)
        rintro _ ⟨z, k3, rfl, hz⟩
        obtain rfl : z = ⟨⟨34 :: (cs.map fun c => esc c m).flatten ++ [34]⟩⟩ := hz.trans (app_list _ _)
        intro n9 t9 G9 s
        (run_tac gR 1 0)
        (refine gp [] 2 [] 0 (by kernel_rfl) ?_; intro ns74 ts74 Gs74 s74)
        refine ke (by kernel_rfl) ?_
        rw [show writ cs m = 34 :: (cs.map fun c => esc c m).flatten ++ [34] from if_neg (of_decide_eq_false he)]
        exact rets 0 (by kernel_rfl))
  run_tac sq
set_option maxHeartbeats 0 in
theorem lla_t : LLa (cx w b1 b2 h₀ d os hk hN) := by
  run_tac sq0
  intro p1 xs v tk hl
  refine sp_of fun p T GT J hP n t G => ?_
  intro s
  (run_tac gR 1 1)
  (run_tac Mine.gxT 0)
  intro z hz
  obtain rfl : z = some (xs.length, v) := by rw [← hz]; exact last_at xs v
  intro s
  (run_tac gR 0 0)
  (refine gp [0] 1 [] 0 (by kernel_rfl) ?_; intro ns3 ts3 Gs3 s3)
  refine ke (by kernel_rfl) ?_
  exact rets 1 (by kernel_rfl)
  run_tac sq
set_option maxHeartbeats 0 in
theorem pc_s (hLl : LLa (cx w b1 b2 h₀ d os hk hN)) (hAp : AppL (cx w b1 b2 h₀ d os hk hN)) (hNx : SNx (cx w b1 b2 h₀ d os hk hN)) (c : Nat) (rest : List Nat) (hn : PcLOk (cx w b1 b2 h₀ d os hk hN) (W2 w b1 b2).params rest) : PcLOk (cx w b1 b2 h₀ d os hk hN) (W2 w b1 b2).params (c :: rest) := by
  run_tac sq0
  intro pI pP pL pFr idx cs as S loc hcs h128 hal hql hloc
  refine sp_of fun pp T GT J hP n t G => ?_
  intro s
  obtain ⟨ps, b, q⟩ := S
  obtain ⟨hc, hrest⟩ := at_of hcs
  dsimp only at hql
  rcases hloc with rfl | ⟨y, rfl⟩ <;> (
    (run_tac gR 4 65)
    (refine gp [0, 1, 2, 3] 4 [] 0 (by kernel_rfl) ?_; intro ns5 ts5 Gs5 s5; refine ko 1 (hNx pI idx c cs hc) (by kernel_rfl) ?_ ?_)
    · trivial
    intro r H' h
    (apply Rets.elim h; intro k9 a9 J)
    intro n1 t1 G1 s
    (run_tac gR 14 1065216)
    (refine gp [0, 1, 2, 3] 4 [] 0 (by kernel_rfl) ?_; intro ns8 ts8 Gs8 s8; refine kb (by kernel_rfl) (fun _ _ => strin_ok (x := ⟨#[32, 9]⟩) (y := ⟨#[c]⟩) (by kernel_rfl)) ?_)
    rintro r ⟨bb, rfl, hbb⟩ n2 t2 G2
    rw [in_bl] at hbb
    intro s
    cases hb : isBl c with
    | false =>
      obtain rfl : bb = false := hbb.trans hb
      (run_tac gR 16 34087044)
      (refine gp [1, 0, 2, 3] 4 [] 0 (by kernel_rfl) ?_; intro ns10 ts10 Gs10 s10; refine ko 1 (hLl pP (as.map .ref) (.ref (pL + 281)) (argTok 1 (codeOf (‹Cf› : Cf).t)) (by simp; (run_tac om))) (by kernel_rfl) ?_ ?_)
      · trivial
      intro r H' h
      (apply Rets.elim h; intro ka0 aa0 J)
      intro na0 ta0 Ga0 s
      (run_tac gR 6 4)
      (refine gp [0, 1, 2, 3] 4 [] 0 (by kernel_rfl) ?_; intro ns13 ts13 Gs13 s13; refine kb (by kernel_rfl) (fun _ _ => strin_ok (x := ⟨#[32, 9]⟩) (y := ⟨#[c]⟩) (by kernel_rfl)) ?_)
      rintro r ⟨bb, rfl, hbb⟩ nb0 tb0 Gb0
      rw [in_bl] at hbb
      intro s
      obtain rfl : bb = false := hbb.trans hb
      (run_tac gR 15 67907779)
      (refine gp [0, 1, 2, 3] 4 [] 0 (by kernel_rfl) ?_; intro ns15 ts15 Gs15 s15; refine kb (by kernel_rfl) (fun _ _ => stradd_ok (x := ⟨⟨q⟩⟩) (y := ⟨⟨[c]⟩⟩) (by kernel_rfl) (by rw [len_app]; have h9 := sizeLine_eq; simp only [Str.length, List.size_toArray, List.length_cons, List.length_nil] at hql ⊢; (run_tac om))) ?_)
      rintro _ ⟨z, kz0, rfl, hz⟩
      obtain rfl : z = ⟨⟨q ++ [c]⟩⟩ := hz.trans (app_list _ _)
      intro nz0 tz0 Gz0 s
      (run_tac gR 11 3272356035)
      (refine gp [1, 0, 2, 3] 4 [] 0 (by kernel_rfl) ?_; intro ns17 ts17 Gs17 s17; refine kaw (T := (T)) (GT := GT) 4 ((hn pI pP pL pFr (idx + 1) cs as (ps, (b, q ++ [c])) [(.s sSign, .s ⟨#[c]⟩)] hrest (fun x hx => h128 x (.tail _ hx)) (by simp at hal; (run_tac om)) (by simp at hql ⊢; (run_tac om)) (.inr ⟨_, rfl⟩))) (by kernel_rfl) ?_ ?_)
      · exact hP
      intro r H' h
      rw [List.foldl_cons, show stepP (ps, b, q) c = (ps, (b, q ++ [c])) from if_neg (by rw [hb]; exact Bool.noConfusion)]
      exact h
    | true =>
      obtain rfl : bb = true := hbb.trans hb
      (run_tac gR 15 34087044)
      (refine gp [1, 0, 2, 3] 4 [] 0 (by kernel_rfl) ?_; intro ns20 ts20 Gs20 s20; refine ko 1 (hLl pP (as.map .ref) (.ref (pL + 281)) (argTok 1 (codeOf (‹Cf› : Cf).t)) (by simp; (run_tac om))) (by kernel_rfl) ?_ ?_)
      · trivial
      intro r H' h
      (apply Rets.elim h; intro ka1 aa1 J)
      intro na1 ta1 Ga1 s
      (run_tac gR 18 1124872387)
      refine gs (!((⟨⟨q⟩⟩ : Str).cps.toList == ([] : List Nat))) (by kernel_rfl) (fun hq => ?_) (fun hq => ?_)
      · have hq : q ≠ [] := by rintro rfl; simp at hq
        intro s
        (run_tac gR 17 2164527172)
        (refine gp [1, 0, 2, 3, 4] 5 [] 0 (by kernel_rfl) ?_; intro ns24 ts24 Gs24 s24; refine ko 1 (hAp pP (as.map .ref ++ [.ref (pL + 281)]) (.ref (na1 + 281)) (by simp; (run_tac om))) (by kernel_rfl) ?_ ?_)
        · trivial
        intro r H' h
        (apply Rets.elim h; intro kd ad J)
        intro nd td Gd s
        (run_tac gR 17 17043525)
        (refine gp [0, 1, 2, 3, 4] 5 [] 0 (by kernel_rfl) ?_; intro ns27 ts27 Gs27 s27; refine ko 1 (hLl pP (as.map .ref ++ [.ref (pL + 281)]) (.ref (na1 + 281)) (argTok 1 (codeOf (‹Cf› : Cf).t)) (by simp; (run_tac om))) (by kernel_rfl) ?_ ?_)
        · trivial
        intro r H' h
        (apply Rets.elim h; intro ka2 aa2 J)
        intro na2 ta2 Ga2 s
        (run_tac gR 6 5)
        (refine gp [0, 1, 2, 3, 4] 5 [] 0 (by kernel_rfl) ?_; intro ns30 ts30 Gs30 s30; refine kb (by kernel_rfl) (fun _ _ => strin_ok (x := ⟨#[32, 9]⟩) (y := ⟨#[c]⟩) (by kernel_rfl)) ?_)
        rintro r ⟨bb, rfl, hbb⟩ nb2 tb2 Gb2
        rw [in_bl] at hbb
        intro s
        obtain rfl : bb = true := hbb.trans hb
        (run_tac gR 15 84418690)
        (refine gp [0, 1, 2, 3, 4] 5 [] 0 (by kernel_rfl) ?_; intro ns32 ts32 Gs32 s32; refine kb (by kernel_rfl) (fun _ _ => stradd_ok (x := ⟨⟨[]⟩⟩) (y := ⟨⟨[c]⟩⟩) (by kernel_rfl) (by rw [len_app]; have h9 := sizeLine_eq; simp only [Str.length, List.size_toArray, List.length_cons, List.length_nil] at hql ⊢; (run_tac om))) ?_)
        rintro _ ⟨z, kz2, rfl, hz⟩
        obtain rfl : z = ⟨⟨[c]⟩⟩ := hz.trans (app_list _ _)
        intro nz2 tz2 Gz2 s
        (run_tac gR 11 2181570690)
        refine gview 0 ⟨.t "list", none, .seqV ((as ++ [pL + 281]).map .ref ++ [.ref (na1 + 281)])⟩ ⟨.t "list", none, .seqV (as.map .ref ++ [.ref (pL + 281)] ++ [.ref (na1 + 281)])⟩ (by kernel_rfl) (by rw [List.map_append]; rfl) fun jv J => ?_
        intro s
        (refine gp [2, 0, 1, 4, 3] 5 [] 0 (by kernel_rfl) ?_; intro ns34 ts34 Gs34 s34)
        obtain ⟨o, ho⟩ : ∃ o : Obj, o = { cls := .type "list", data := .seq #[.str ⟨⟨b⟩⟩ (strTok (seqAt (‹Cf› : Cf).cells 4) 0), .str ⟨⟨q⟩⟩ (strTok (seqAt (‹Cf› : Cf).cells 4) 1)] (epAt (‹Cf› : Cf).cells 4) } := ⟨_, rfl⟩
        refine gtail 4 (pL + 281, o) T (by rw [ho]; kernel_rfl) fun n9 t9 G9 => ?_
        intro s
        (refine gp [0, 1, 2, 3] 4 [] 0 (by kernel_rfl) ?_; intro ns35 ts35 Gs35 s35; refine kaw (T := ((T ++ [(pL + 281, o)]))) (GT := GT) 4 ((hn pI pP na1 pFr (idx + 1) cs (as ++ [pL + 281]) (ps ++ [(b, q)], ([c], [])) [(.s sSign, .s ⟨#[c]⟩)] hrest (fun x hx => h128 x (.tail _ hx)) (by simp at hal ⊢; (run_tac om)) (by simp at hql ⊢; (run_tac om)) (.inr ⟨_, rfl⟩))) (by kernel_rfl) ?_ ?_)
        · rw [show (((ps ++ [(b, q)], ([c], [])) : PS).1.map s2) = ps.map s2 ++ [s2 (b, q)] from List.map_append ..]
          exact (hP.sub fun _ h => List.mem_append_left _ h).snoc (List.mem_append_right _ (List.mem_singleton.mpr rfl)) ⟨_, _, _, ho⟩
        rintro r H' ⟨as', pL', loc', N, h1, h2, h3⟩
        rw [List.foldl_cons, show stepP (ps, b, q) c = (ps ++ [(b, q)], ([c], [])) by unfold stepP; rw [if_pos hb, if_neg hq]]
        rw [List.append_assoc] at h2 h3
        exact ⟨as', pL', loc', _, h1, h2, h3⟩
      · have hq : q = [] := by simpa using hq
        intro s
        (run_tac gR 16 17043524)
        (refine gp [0, 1, 2, 3] 4 [] 0 (by kernel_rfl) ?_; intro ns38 ts38 Gs38 s38; refine ko 1 (hLl pP (as.map .ref) (.ref (pL + 281)) (argTok 1 (codeOf (‹Cf› : Cf).t)) (by simp; (run_tac om))) (by kernel_rfl) ?_ ?_)
        · trivial
        intro r H' h
        (apply Rets.elim h; intro ka3 aa3 J)
        intro na3 ta3 Ga3 s
        (run_tac gR 6 4)
        (refine gp [0, 1, 2, 3] 4 [] 0 (by kernel_rfl) ?_; intro ns41 ts41 Gs41 s41; refine kb (by kernel_rfl) (fun _ _ => strin_ok (x := ⟨#[32, 9]⟩) (y := ⟨#[c]⟩) (by kernel_rfl)) ?_)
        rintro r ⟨bb, rfl, hbb⟩ nb3 tb3 Gb3
        rw [in_bl] at hbb
        intro s
        obtain rfl : bb = true := hbb.trans hb
        (run_tac gR 15 67907779)
        (refine gp [0, 1, 2, 3] 4 [] 0 (by kernel_rfl) ?_; intro ns43 ts43 Gs43 s43; refine kb (by kernel_rfl) (fun _ _ => stradd_ok (x := ⟨⟨b⟩⟩) (y := ⟨⟨[c]⟩⟩) (by kernel_rfl) (by rw [len_app]; have h9 := sizeLine_eq; simp only [Str.length, List.size_toArray, List.length_cons, List.length_nil] at hql ⊢; (run_tac om))) ?_)
        rintro _ ⟨z, kz3, rfl, hz⟩
        obtain rfl : z = ⟨⟨b ++ [c]⟩⟩ := hz.trans (app_list _ _)
        intro nz3 tz3 Gz3 s
        (run_tac gR 11 3272356035)
        (refine gp [1, 0, 2, 3] 4 [] 0 (by kernel_rfl) ?_; intro ns45 ts45 Gs45 s45; refine kaw (T := (T)) (GT := GT) 4 ((hn pI pP pL pFr (idx + 1) cs as (ps, (b ++ [c], q)) [(.s sSign, .s ⟨#[c]⟩)] hrest (fun x hx => h128 x (.tail _ hx)) (by simp at hal; (run_tac om)) (by simp at hql ⊢; (run_tac om)) (.inr ⟨_, rfl⟩))) (by kernel_rfl) ?_ ?_)
        · exact hP
        intro r H' h
        rw [List.foldl_cons, show stepP (ps, b, q) c = (ps, (b ++ [c], q)) by unfold stepP; rw [if_pos hb, if_pos hq]]
        exact h)
  run_tac sq
set_option maxHeartbeats 0 in
theorem pc_z : PcLOk (cx w b1 b2 h₀ d os hk hN) (W2 w b1 b2).params [] := by
  run_tac sq0
  intro pI pP pL pFr idx cs as S loc hcs h128 hal hql hloc
  refine sp_of fun pp T GT J hP n t G => ?_
  intro s
  have hno := end_of hcs
  obtain ⟨l0, hl0⟩ : ∃ l, l = loc := ⟨_, rfl⟩
  have hloc0 := hloc
  rcases hloc with rfl | ⟨y, rfl⟩ <;> (
    (run_tac gR 7 266305)
    (run_tac Mine.gxT 0)
    intro y' he
    obtain rfl : y' = none := by rw [← he]; simpa using hno
    intro s
    (run_tac gR 10 4161)
    (refine gp [3, 4, 5] 6 [] 0 (by kernel_rfl) ?_; intro ns92 ts92 Gs92 s92)
    refine ke (by kernel_rfl) ?_
    exact ⟨as, pL, _, [], hloc0, by rw [List.append_nil]; exact hP, by rw [List.append_nil]; exact flows 3 (by kernel_rfl)⟩)
  run_tac sq
theorem pieces_snoc {cs : List Nat} {ps : List (List Nat × List Nat)} {b q : List Nat} (hS : (ps, b, q) = cs.foldl stepP ([], ([], []))) {X : Cells} {as : List Addr} (hO : Objs pcO X as (((ps, b, q) : PS).1.map s2)) {a : Addr} {o : Obj} {k j : Tok} {ep : Nat} (ho : o = { cls := .type "list", data := .seq #[.str ⟨⟨b⟩⟩ k, .str ⟨⟨q⟩⟩ j] ep }) : Objs pcO (X ++ [(a, o)]) (as ++ [a]) ((piecesOf cs).map s2) := by
  rw [show piecesOf cs = ps ++ [(b, q)] by unfold piecesOf; rw [← hS], List.map_append]
  exact (hO.sub fun _ h => List.mem_append_left _ h).snoc (List.mem_append_right _ (List.mem_singleton.mpr rfl)) ⟨_, _, _, ho⟩
set_option maxHeartbeats 0 in
theorem pieces_t (hn : ∀ cs, PcLOk (cx w b1 b2 h₀ d os hk hN) (W2 w b1 b2).params cs) : PiecesOk (cx w b1 b2 h₀ d os hk hN) := by
  run_tac sq0
  intro cs k h128 hne hl
  refine sp_of fun pp T GT J hP n t G => ?_
  intro s
  (run_tac gR 33 1207822320295739392)
  refine gview 0 ⟨.t "str_ascii_iterator", none, .fields [.s ⟨⟨cs⟩⟩, .i ((0 : Nat) : Int)]⟩ ⟨.t (if (true && (⟨⟨cs⟩⟩ : Str).cps.all (· < 128)) then "str_ascii_iterator" else "str_iterator"), none, .fields [.s ⟨⟨cs⟩⟩, .i 0]⟩ (by kernel_rfl) (by rw [ascii_all h128]; rfl) fun jv J => ?_
  intro s
  (run_tac gR 1 1)
  (refine gp [0, 1, 2, 3] 4 [] 0 (by kernel_rfl) ?_; intro ns3 ts3 Gs3 s3; refine kc 4 ((hn cs) (n + 3) (n + 2) (n + 1) n 0 cs [] ([], ([], [])) [] rfl h128 (by simp; (run_tac om)) (by simp; (run_tac om)) (.inl rfl)) (by kernel_rfl) ?_ ?_)
  · exact .nil
  rintro r H' ⟨as, pL, loc, N, hloc, hO, h⟩
  obtain ⟨⟨ps, b, q⟩, hS⟩ : ∃ S : PS, S = cs.foldl stepP ([], ([], [])) := ⟨_, rfl⟩
  rw [← hS] at hO h
  have e4 : dropC (‹Cf› : Cf).cells 4 = T := by kernel_rfl
  rw [e4] at hO
  (apply Flows.elim h; intro J)
  intro n2 t2 G2 s
  rcases hloc with rfl | ⟨y, rfl⟩ <;> (
    (run_tac gR 3 3)
    refine gview 0 ⟨.t "list", none, .seqV ((as ++ [pL + 281]).map .ref)⟩ ⟨.t "list", none, .seqV (as.map .ref ++ [.ref (pL + 281)])⟩ (by kernel_rfl) (by rw [List.map_append]; rfl) fun jv J => ?_
    intro s
    (refine gp [0, 1] 3 [] 0 (by kernel_rfl) ?_; intro ns6 ts6 Gs6 s6)
    obtain ⟨o, ho⟩ : ∃ o : Obj, o = { cls := .type "list", data := .seq #[.str ⟨⟨b⟩⟩ (strTok (seqAt (‹Cf› : Cf).cells 1) 0), .str ⟨⟨q⟩⟩ (strTok (seqAt (‹Cf› : Cf).cells 1) 1)] (epAt (‹Cf› : Cf).cells 1) } := ⟨_, rfl⟩
    refine gtail 1 (pL + 281, o) (T ++ N) (by rw [ho]; kernel_rfl) fun n9 t9 G9 => ?_
    intro s
    refine ke (by kernel_rfl) ?_
    exact ⟨n + 2, as ++ [pL + 281], N ++ [(pL + 281, o)], T ++ N ++ [(pL + 281, o)], (List.append_assoc ..), pieces_snoc hS hO ho, rets 1 (by kernel_rfl)⟩)
  run_tac sq
set_option maxHeartbeats 0 in
theorem lgl_t : LGl (cx w b1 b2 h₀ d os hk hN) := by
  run_tac sq0
  (
  intro p1 k i tk xs v hi hv hl
  refine sp_of fun p T GT J hP n t G => ?_
  intro s
  (run_tac gR 0 0)
  (run_tac Mine.gxT 0)
  intro z _
  cases z with
  | isTrue h => exact absurd ((fits_no' hi (by have := (List.getElem?_eq_some_iff.mp hv).1; (run_tac om))).symm.trans h) (by decide)
  | isFalse h =>
  intro s
  (run_tac gR 0 0)
  (run_tac Mine.gxT 50)
  intro y hy
  obtain rfl : y = (k : Int) := by rw [← hy]; exact hi
  intro s
  (run_tac gR 1 1)
  (run_tac Mine.gxT 0)
  intro z hz
  obtain rfl : z = some (k, v) := by rw [← hz]; simp [hv]
  intro s
  (run_tac gR 0 0)
  (refine gp [0] 1 [] 0 (by kernel_rfl) ?_; intro ns5 ts5 Gs5 s5)
  refine ke (by kernel_rfl) ?_
  exact rets 1 (by kernel_rfl)
  )
  run_tac sq
set_option maxHeartbeats 0 in
theorem rnu_t : RNu (cx w b1 b2 h₀ d os hk hN) := by
  run_tac sq0
  intro pI i j f hj
  refine sp_of fun p T GT J hP n t G => ?_
  intro s
  (run_tac gR 8 69810262081)
  refine gview 0 ⟨.t "range_iterator", none, .fields [.i j, .i (f : Int), .i 1]⟩ ⟨.t "range_iterator", none, .fields [.i (i + 1), .i (((f + 1 : Nat) : Int) - 1), .i 1]⟩ (by kernel_rfl) (by rw [hj, show (((f + 1 : Nat) : Int) - 1) = (f : Int) by (run_tac om)]) fun jv J => ?_
  intro s
  (refine gp [0] 1 [] 0 (by kernel_rfl) ?_; intro ns7 ts7 Gs7 s7)
  refine ke (by kernel_rfl) ?_
  exact rets 1 (by kernel_rfl)
  run_tac sq
set_option maxHeartbeats 0 in
theorem sfi_t : SFi (cx w b1 b2 h₀ d os hk hN) := by
  run_tac sq0
  intro c l k j
  refine sp_of fun p T GT J hP n t G => ?_
  intro s
  (run_tac gR 0 0)
  (run_tac Mine.gxT 0)
  intro z hz
  obtain rfl : z = some c := by
    rw [← hz]
    have e2 : seqIndex? 0 (⟨⟨c :: l⟩⟩ : Str).length = some 0 := by
      unfold seqIndex?
      simp [Str.length]
    rw [e2]
    simp
  intro s
  (run_tac gR 1 0)
  (refine gp [] 0 [] 0 (by kernel_rfl) ?_; intro ns10 ts10 Gs10 s10)
  refine ke (by kernel_rfl) ?_
  exact rets 0 (by kernel_rfl)
  run_tac sq
set_option maxHeartbeats 0 in
theorem sla_t : SLa (cx w b1 b2 h₀ d os hk hN) := by
  run_tac sq0
  intro c l k j
  refine sp_of fun p T GT J hP n t G => ?_
  intro s
  (run_tac gR 0 0)
  (run_tac Mine.gxT 0)
  intro z hz
  obtain rfl : z = some c := by
    rw [← hz]
    have e : (⟨⟨l ++ [c]⟩⟩ : Str).length = l.length + 1 := by simp [Str.length]
    have e2 : seqIndex? (-1) (l.length + 1) = some l.length := by
      unfold seqIndex?
      simp
      (run_tac om)
    rw [e, e2]
    simp
  intro s
  (run_tac gR 1 0)
  (refine gp [] 0 [] 0 (by kernel_rfl) ?_; intro ns13 ts13 Gs13 s13)
  refine ke (by kernel_rfl) ?_
  exact rets 0 (by kernel_rfl)
  run_tac sq
set_option maxHeartbeats 0 in
theorem lnext_t : LNx (cx w b1 b2 h₀ d os hk hN) := by
  run_tac sq0
  intro pI pL idx xs v hv
  refine sp_of fun p T GT J hP n t G => ?_
  intro s
  (run_tac gR 3 8257)
  (run_tac Mine.gxT 0)
  intro y he
  obtain rfl : y = some v := by rw [← he]; simpa using hv
  intro s
  (run_tac gR 2 65)
  (refine gp [0, 1] 2 [] 0 (by kernel_rfl) ?_; intro ns16 ts16 Gs16 s16)
  refine ke (by kernel_rfl) ?_
  exact rets 2 (by kernel_rfl)
  run_tac sq
set_option maxHeartbeats 0 in
theorem cu_s (hRn : RNu (cx w b1 b2 h₀ d os hk hN)) (hLg : LGl (cx w b1 b2 h₀ d os hk hN)) (hLl : LLa (cx w b1 b2 h₀ d os hk hN)) (hAp : AppL (cx w b1 b2 h₀ d os hk hN)) (hFi : SFi (cx w b1 b2 h₀ d os hk hN)) (hLa : SLa (cx w b1 b2 h₀ d os hk hN)) (q : Pc) (rest : List Pc) (hn : CuOk (cx w b1 b2 h₀ d os hk hN) (W2 w b1 b2).params rest) : CuOk (cx w b1 b2 h₀ d os hk hN) (W2 w b1 b2).params (q :: rest) := by
  run_tac sq0
  intro pI pP pB pL pFr k W sp pcs p as bs S kk z hpc hdr hp hbl
  refine sp_of fun pp T GT J hP n t G => ?_
  intro s
  obtain ⟨done, ⟨bg, sz⟩, place⟩ := S
  obtain ⟨hO, hB⟩ := hP
  have hq : pcs[k + 1]? = some q := by have := congrArg (·[0]?) hdr; simpa using this
  have hk1 : k + 1 < pcs.length := (List.getElem?_eq_some_iff.mp hq).1
  have hal := hO.lens
  rw [List.length_map] at hal
  obtain ⟨a2, x2, o2, ha2, hx2, hm2, k2, j2, e2, rfl⟩ := hO.at (i := k + 1) (by rw [List.length_map]; exact hk1)
  obtain ⟨a1, x1, o1, ha1, hx1, hm1, k1, j1, e1, rfl⟩ := hO.at (i := k) (by rw [List.length_map]; (run_tac om))
  obtain rfl : s2 q = x2 := by rw [List.getElem?_map, hq] at hx2; exact Option.some.inj hx2
  obtain rfl : s2 p = x1 := by rw [List.getElem?_map, hp] at hx1; exact Option.some.inj hx1
  obtain ⟨T1, T2, hT⟩ := List.append_of_mem hm2
  obtain ⟨T3, T4, hT3⟩ := List.append_of_mem hm1
  (run_tac gR 4 65)
  (refine gp [0, 1, 2, 3, 4] 5 [] 0 (by kernel_rfl) ?_; intro ns2 ts2 Gs2 s2; refine ko 1 (hRn pI ((k + 1 : Nat) : Int) ((k + 1 + 1 : Nat) : Int) rest.length rfl) (by kernel_rfl) ?_ ?_)
  · trivial
  intro r H' h
  (apply Rets.elim h; intro kx ax J)
  intro n1 t1 G1 s
  (run_tac gR 22 2342443901245215040)
  (refine gp [1, 0, 2, 3, 4] 5 [] 0 (by kernel_rfl) ?_; intro ns5 ts5 Gs5 s5; refine ko 1 (hLg pP (k + 1) ((k + 1 : Nat) : Int) (argTok 1 (codeOf (‹Cf› : Cf).t)) (as.map .ref) (.ref a2) rfl (by rw [List.getElem?_map, ha2]; rfl) (by rw [List.length_map, hal]; have := hpc.2.2.1; (run_tac om))) (by kernel_rfl) ?_ ?_)
  · trivial
  intro r H' h
  (apply Rets.elim h; intro ky ay J)
  intro n2 t2 G2 s
  refine gbring 5 T _ T1 T2 hT (by kernel_rfl) fun n3 t3 G3 => ?_
  intro s
  (run_tac gR 15 102261126)
  (refine gp [0, 1, 2, 3, 4, 5] 6 [] 0 (by kernel_rfl) ?_; intro ns8 ts8 Gs8 s8; refine kb (by kernel_rfl) (fun _ _ => lenstr_ok (x := ⟨⟨q.1⟩⟩) (by kernel_rfl) (by have := (hpc.2.2.2 q (List.mem_of_getElem? hq)).1; have h9 := sizeLine_eq; simp only [Str.length, List.size_toArray]; (run_tac om))) ?_)
  rintro r ⟨i1, kl1, rfl, hi1⟩ nl1 tl1 Gl1
  intro s
  (run_tac gR 15 4467857838080)
  (refine gp [0, 1, 2, 3, 4, 5] 6 [] 0 (by kernel_rfl) ?_; intro ns10 ts10 Gs10 s10; refine ko 1 (hLg pP (k + 1) (((k + 1 : Nat) : Int)) (argTok 1 (codeOf (‹Cf› : Cf).t)) (as.map .ref) (.ref a2) (by (run_tac om)) (by rw [List.getElem?_map, ha2]; rfl) (by rw [List.length_map, hal]; have := hpc.2.2.1; (run_tac om))) (by kernel_rfl) ?_ ?_)
  · trivial
  intro r H' h
  (apply Rets.elim h; intro kg2 ag2 J)
  intro ng2 tg2 Gg2 s
  (run_tac gR 15 102261126)
  (refine gp [0, 1, 2, 3, 4, 5] 6 [] 0 (by kernel_rfl) ?_; intro ns13 ts13 Gs13 s13; refine kb (by kernel_rfl) (fun _ _ => lenstr_ok (x := ⟨⟨q.2⟩⟩) (by kernel_rfl) (by have := (hpc.2.2.2 q (List.mem_of_getElem? hq)).2; have h9 := sizeLine_eq; simp only [Str.length, List.size_toArray]; (run_tac om))) ?_)
  rintro r ⟨i2, kl3, rfl, hi2⟩ nl3 tl3 Gl3
  intro s
  (run_tac gR 33 1171222125123752256)
  (refine gp [0, 1, 2, 3, 4, 5] 6 [] 0 (by kernel_rfl) ?_; intro ns15 ts15 Gs15 s15; refine ko 1 (hLg pP (k + 1) (((k + 1 : Nat) : Int)) (argTok 1 (codeOf (‹Cf› : Cf).t)) (as.map .ref) (.ref a2) (by (run_tac om)) (by rw [List.getElem?_map, ha2]; rfl) (by rw [List.length_map, hal]; have := hpc.2.2.1; (run_tac om))) (by kernel_rfl) ?_ ?_)
  · trivial
  intro r H' h
  (apply Rets.elim h; intro kg4 ag4 J)
  intro ng4 tg4 Gg4 s
  have hsz : sizeI q = i1 + i2 := by rw [hi1, hi2]; rfl
  have hdr' : pcs.drop (k + 1 + 1) = rest := by have := congrArg (·.drop 1) hdr; simpa using this
  obtain ⟨q1, q2⟩ := q
  obtain ⟨p1, p2⟩ := p
  rcases q1 with _ | ⟨c, q1⟩
  · exact absurd rfl (hpc.1 _ (List.mem_of_getElem? (i := k) (by rw [List.getElem?_drop, Nat.add_comm]; exact hq)))
  obtain ⟨p3, dd, rfl⟩ : ∃ l x, p2 = l ++ [x] := ⟨_, _, (List.dropLast_concat_getLast (hpc.2.1 _ (List.mem_of_getElem? hp))).symm⟩
  (run_tac gR 16 102261126)
  (refine gp [0, 1, 2, 3, 4, 5] 6 [] 0 (by kernel_rfl) ?_; intro ns18 ts18 Gs18 s18; refine ko 0 (hFi c q1 (argTok 0 (codeOf (‹Cf› : Cf).t)) (argTok 1 (codeOf (‹Cf› : Cf).t))) (by kernel_rfl) ?_ ?_)
  · trivial
  intro r H' h
  (apply Rets.elim h; intro kf af J)
  intro nf tf Gf s
  (run_tac gR 7 69)
  refine gs (([c] : List Nat) == [sp]) (by kernel_rfl) (fun hc => ?_) (fun hc => ?_)
  · intro s
    (run_tac gR 19 17941203267781)
    (refine gp [3, 0, 1, 2, 4, 5, 6] 7 [] 0 (by kernel_rfl) ?_; intro ns22 ts22 Gs22 s22; refine ko 1 (hAp pB (bs.map .ref ++ [.ref (pL + 281)]) (.ref (nf + 281)) (by simp at hbl ⊢; (run_tac om))) (by kernel_rfl) ?_ ?_)
    · trivial
    intro r H' h
    (apply Rets.elim h; intro kd1 ad1 J)
    intro nd1 td1 Gd1 s
    (run_tac gR 18 102236550)
    (refine gp [3, 2, 0, 1, 5, 4, 6] 7 [] 0 (by kernel_rfl) ?_; intro ns25 ts25 Gs25 s25)
    refine gput 6 T _ T1 T2 hT (by kernel_rfl) fun nq1 tq1 Gq1 => ?_
    intro s
    refine gview 2 ⟨.t "list", none, .seqV ((bs ++ [pL + 281]).map .ref ++ [.ref (nf + 281)])⟩ ⟨.t "list", none, .seqV (bs.map .ref ++ [.ref (pL + 281)] ++ [.ref (nf + 281)])⟩ (by kernel_rfl) (by rw [List.map_append]; rfl) fun jv J => ?_
    intro s
    obtain ⟨o, ho⟩ : ∃ o : Obj, o = { cls := .type "list", data := .seq #[.int bg (intTok (seqAt (‹Cf› : Cf).cells 5) 0), .int sz (intTok (seqAt (‹Cf› : Cf).cells 5) 1)] (epAt (‹Cf› : Cf).cells 5) } := ⟨_, rfl⟩
    refine gtail 5 (pL + 281, o) T (by rw [ho]; kernel_rfl) fun nr1 tr1 Gr1 => ?_
    intro s
    (refine gp [0, 1, 2, 3, 4] 5 [] 0 (by kernel_rfl) ?_; intro ns26 ts26 Gs26 s26; refine kaw (T := ((T ++ [(pL + 281, o)]))) (GT := GT) 5 ((hn pI pP pB nf pFr (k + 1) W sp pcs (c :: q1, q2) as (bs ++ [pL + 281]) ⟨done ++ [(bg, sz)], (place, i1 + i2), place + (i1 + i2)⟩ ((k + 1 : Nat) : Int) (i1 + i2) hpc hdr' hq (by simp at hbl ⊢; (run_tac om)))) (by kernel_rfl) ?_ ?_)
    · exact ⟨hO.sub fun _ h => List.mem_append_left _ h, (hB.sub fun _ h => List.mem_append_left _ h).snoc (List.mem_append_right _ (List.mem_singleton.mpr rfl)) ⟨_, _, _, ho⟩⟩
    rintro r H' ⟨bs', pL', kk', z', N, X, hX, h2, h3⟩
    rw [runC_yes hsz (brk_1 hc)]
    exact ⟨bs', pL', kk', z', _, X, hX.trans (List.append_assoc ..), h2, h3⟩
  · intro s
    refine gput 5 T _ T1 T2 hT (by kernel_rfl) fun np tp Gp => ?_
    intro s
    (run_tac gR 17 1090785605)
    (refine gp [0, 1, 2, 3, 4] 5 [] 0 (by kernel_rfl) ?_; intro ns29 ts29 Gs29 s29; refine ko 1 (hLg pP (k) ((((k + 1 : Nat) : Int) - 1)) (argTok 1 (codeOf (‹Cf› : Cf).t)) (as.map .ref) (.ref a1) (by (run_tac om)) (by rw [List.getElem?_map, ha1]; rfl) (by rw [List.length_map, hal]; have := hpc.2.2.1; (run_tac om))) (by kernel_rfl) ?_ ?_)
    · trivial
    intro r H' h
    (apply Rets.elim h; intro kg5 ag5 J)
    intro ng5 tg5 Gg5 s
    refine gbring 5 T _ T3 T4 hT3 (by kernel_rfl) fun nb tb Gb => ?_
    intro s
    (run_tac gR 21 102261126)
    (refine gp [0, 1, 2, 3, 4, 5] 6 [] 0 (by kernel_rfl) ?_; intro ns32 ts32 Gs32 s32; refine ko 0 (hLa dd p3 (argTok 0 (codeOf (‹Cf› : Cf).t)) (argTok 1 (codeOf (‹Cf› : Cf).t))) (by kernel_rfl) ?_ ?_)
    · trivial
    intro r H' h
    (apply Rets.elim h; intro kl al J)
    intro nl tl Gl s
    (run_tac gR 7 69)
    refine gs (([dd] : List Nat) == [sp]) (by kernel_rfl) (fun hd => ?_) (fun hd => ?_)
    · intro s
      (run_tac gR 19 17941203267781)
      (refine gp [3, 0, 1, 2, 4, 5, 6] 7 [] 0 (by kernel_rfl) ?_; intro ns36 ts36 Gs36 s36; refine ko 1 (hAp pB (bs.map .ref ++ [.ref (pL + 281)]) (.ref (nl + 281)) (by simp at hbl ⊢; (run_tac om))) (by kernel_rfl) ?_ ?_)
      · trivial
      intro r H' h
      (apply Rets.elim h; intro kd2 ad2 J)
      intro nd2 td2 Gd2 s
      (run_tac gR 18 102236550)
      (refine gp [3, 2, 0, 1, 5, 4, 6] 7 [] 0 (by kernel_rfl) ?_; intro ns39 ts39 Gs39 s39)
      refine gput 6 T _ T3 T4 hT3 (by kernel_rfl) fun nq2 tq2 Gq2 => ?_
      intro s
      refine gview 2 ⟨.t "list", none, .seqV ((bs ++ [pL + 281]).map .ref ++ [.ref (nl + 281)])⟩ ⟨.t "list", none, .seqV (bs.map .ref ++ [.ref (pL + 281)] ++ [.ref (nl + 281)])⟩ (by kernel_rfl) (by rw [List.map_append]; rfl) fun jv J => ?_
      intro s
      obtain ⟨o, ho⟩ : ∃ o : Obj, o = { cls := .type "list", data := .seq #[.int bg (intTok (seqAt (‹Cf› : Cf).cells 5) 0), .int sz (intTok (seqAt (‹Cf› : Cf).cells 5) 1)] (epAt (‹Cf› : Cf).cells 5) } := ⟨_, rfl⟩
      refine gtail 5 (pL + 281, o) T (by rw [ho]; kernel_rfl) fun nr2 tr2 Gr2 => ?_
      intro s
      (refine gp [0, 1, 2, 3, 4] 5 [] 0 (by kernel_rfl) ?_; intro ns40 ts40 Gs40 s40; refine kaw (T := ((T ++ [(pL + 281, o)]))) (GT := GT) 5 ((hn pI pP pB nl pFr (k + 1) W sp pcs (c :: q1, q2) as (bs ++ [pL + 281]) ⟨done ++ [(bg, sz)], (place, i1 + i2), place + (i1 + i2)⟩ ((k + 1 : Nat) : Int) (i1 + i2) hpc hdr' hq (by simp at hbl ⊢; (run_tac om)))) (by kernel_rfl) ?_ ?_)
      · exact ⟨hO.sub fun _ h => List.mem_append_left _ h, (hB.sub fun _ h => List.mem_append_left _ h).snoc (List.mem_append_right _ (List.mem_singleton.mpr rfl)) ⟨_, _, _, ho⟩⟩
      rintro r H' ⟨bs', pL', kk', z', N, X, hX, h2, h3⟩
      rw [runC_yes hsz (brk_2 hd)]
      exact ⟨bs', pL', kk', z', _, X, hX.trans (List.append_assoc ..), h2, h3⟩
    · intro s
      (run_tac gR 16 51130565)
      (refine gp [2, 0, 1, 3, 4, 5] 6 [] 0 (by kernel_rfl) ?_; intro ns43 ts43 Gs43 s43; refine ko 1 (hLl pB (bs.map .ref) (.ref (pL + 281)) (argTok 1 (codeOf (‹Cf› : Cf).t)) (by simp at hbl ⊢; (run_tac om))) (by kernel_rfl) ?_ ?_)
      · trivial
      intro r H' h
      (apply Rets.elim h; intro kd3 ad3 J)
      intro nd3 td3 Gd3 s
      (run_tac gR 43 6286438247448254914705244420)
      (refine gp [2, 1, 0, 3, 4, 5] 6 [] 0 (by kernel_rfl) ?_; intro ns46 ts46 Gs46 s46)
      refine gput 5 T _ T3 T4 hT3 (by kernel_rfl) fun nq3 tq3 Gq3 => ?_
      intro s
      (refine gp [0, 1, 2, 3, 4] 5 [] 0 (by kernel_rfl) ?_; intro ns47 ts47 Gs47 s47; refine kaw (T := (T)) (GT := GT) 5 ((hn pI pP pB pL pFr (k + 1) W sp pcs (c :: q1, q2) as bs ⟨done, (bg, sz + (i1 + i2)), place + (i1 + i2)⟩ ((k + 1 : Nat) : Int) (i1 + i2) hpc hdr' hq (by simp at hbl ⊢; (run_tac om)))) (by kernel_rfl) ?_ ?_)
      · exact ⟨hO, hB⟩
      rintro r H' ⟨bs', pL', kk', z', N, X, hX, h2, h3⟩
      rw [runC_no hsz (brk_no hc hd)]
      exact ⟨bs', pL', kk', z', _, X, hX, h2, h3⟩
  run_tac sq
set_option maxHeartbeats 0 in
theorem cu_z : CuOk (cx w b1 b2 h₀ d os hk hN) (W2 w b1 b2).params [] := by
  run_tac sq0
  intro pI pP pB pL pFr k W sp pcs p as bs S kk z hpc hdr hp hbl
  refine sp_of fun pp T GT J hP n t G => ?_
  intro s
  (run_tac gR 15 1090785345)
  (refine gp [3, 4, 5, 6] 7 [] 0 (by kernel_rfl) ?_; intro ns2 ts2 Gs2 s2)
  refine ke (by kernel_rfl) ?_
  exact ⟨bs, pL, kk, z, [], T, (List.append_nil T).symm, hP.2, flows 4 (by kernel_rfl)⟩
  run_tac sq
set_option maxHeartbeats 0 in
theorem cu2_s (hNx : LNx (cx w b1 b2 h₀ d os hk hN)) (hAp : AppL (cx w b1 b2 h₀ d os hk hN)) (x : Int × Int) (rest : List (Int × Int)) (hn : Cu2Ok (cx w b1 b2 h₀ d os hk hN) (W2 w b1 b2).params rest) : Cu2Ok (cx w b1 b2 h₀ d os hk hN) (W2 w b1 b2).params (x :: rest) := by
  run_tac sq0
  intro I pI idx bs bl cs cv row z loc hdr hcs hcl hbl hloc
  refine sp_of fun pp T GT J hB n t G => ?_
  intro s
  obtain ⟨pP, pB, pFr, pC, W, sp, place, kk⟩ := I
  obtain ⟨bg, sz⟩ := x
  have hx : bl[idx]? = some (bg, sz) := by have := congrArg (·[0]?) hdr; simpa using this
  have hdr' : bl.drop (idx + 1) = rest := by have := congrArg (·.drop 1) hdr; simpa using this
  obtain ⟨a, x, o, ha, hx2, hm, k1, j1, e1, rfl⟩ := hB.at (i := idx) (List.getElem?_eq_some_iff.mp hx).1
  obtain rfl : (bg, sz) = x := Option.some.inj (hx.symm.trans hx2)
  obtain ⟨T1, T2, hT⟩ := List.append_of_mem hm
  rcases hloc with rfl | ⟨y, rfl⟩ <;> (
    (run_tac gR 4 65)
    (refine gp [0, 1, 2, 3] 4 [] 0 (by kernel_rfl) ?_; intro ns2 ts2 Gs2 s2; refine ko 2 (hNx pI pB idx (bs.map .ref) (.ref a) (by rw [List.getElem?_map, ha]; rfl)) (by kernel_rfl) ?_ ?_)
    · trivial
    intro r H' h
    (apply Rets.elim h; intro k9 a9 J)
    intro n1 t1 G1 s
    refine gbring 4 T _ T1 T2 hT (by kernel_rfl) fun n3 t3 G3 => ?_
    intro s
    (run_tac gR 70 117013613469625940321180839952082184660345662606885314973932998977)
    refine gs (decide (0 < row)) (by kernel_rfl) (fun h1 => ?_) (fun h1 => ?_)
    · intro s
      (run_tac gR 16 291271)
      refine gs (decide (W < row + sz)) (by kernel_rfl) (fun h2 => ?_) (fun h2 => ?_)
      · intro s
        (run_tac gR 15 419935314311)
        (refine gp [5, 3, 4, 6, 7] 8 [] 0 (by kernel_rfl) ?_; intro ns7 ts7 Gs7 s7; refine ko 1 (hAp pC cs (.int bg (argTok 1 (codeOf (‹Cf› : Cf).t))) (by simp at hcl; (run_tac om))) (by kernel_rfl) ?_ ?_)
        · trivial
        intro r H' h
        obtain ⟨w0, hw0⟩ : ∃ w0 : PySem.Value, w0 = .int bg (argTok 1 (codeOf (‹Cf› : Cf).t)) := ⟨_, rfl⟩
        have hv0 : vv w0 = VV.i bg := by rw [hw0]; rfl
        rw [← hw0] at h
        (apply Rets.elim h; intro k7 a7 J)
        intro n4 t4 G4 s
        (run_tac gR 27 17867132125440)
        (refine gp [1, 2, 0, 3, 4] 5 [] 0 (by kernel_rfl) ?_; intro ns10 ts10 Gs10 s10)
        refine gput 4 T _ T1 T2 hT (by kernel_rfl) fun n5 t5 G5 => ?_
        intro s
        (refine gp [0, 1, 2, 3] 4 [] 0 (by kernel_rfl) ?_; intro ns11 ts11 Gs11 s11; refine kaw (T := (T)) (GT := GT) 4 ((hn ⟨pP, pB, pFr, pC, W, sp, place, kk⟩ pI (idx + 1) bs bl (cs ++ [w0]) (cv ++ [bg]) (0 + sz) sz [(.s sBegin, .i bg)] hdr' (by rw [List.map_append, List.map_append, hcs, List.map_cons, List.map_nil, hv0]; rfl) (by simp at hcl ⊢; (run_tac om)) hbl (.inr ⟨_, rfl⟩))) (by kernel_rfl) ?_ ?_)
        · exact hB
        rintro r H' ⟨cs', row', z', loc', h8, h9⟩
        rw [List.foldl_cons, step2_yes (of_decide_eq_true h1) (of_decide_eq_true h2)]
        exact ⟨cs', row', z', loc', h8, h9⟩
      · intro s
        (run_tac gR 17 119275975)
        (refine gp [3, 4, 5, 6, 7] 8 [] 0 (by kernel_rfl) ?_; intro ns14 ts14 Gs14 s14)
        refine gput 4 T _ T1 T2 hT (by kernel_rfl) fun n5 t5 G5 => ?_
        intro s
        (refine gp [0, 1, 2, 3] 4 [] 0 (by kernel_rfl) ?_; intro ns15 ts15 Gs15 s15; refine kaw (T := (T)) (GT := GT) 4 ((hn ⟨pP, pB, pFr, pC, W, sp, place, kk⟩ pI (idx + 1) bs bl cs cv (row + sz) sz [(.s sBegin, .i bg)] hdr' hcs (by simp at hcl ⊢; (run_tac om)) hbl (.inr ⟨_, rfl⟩))) (by kernel_rfl) ?_ ?_)
        · exact hB
        rintro r H' ⟨cs', row', z', loc', h8, h9⟩
        rw [List.foldl_cons, step2_no (fun h => of_decide_eq_false h2 h.2)]
        exact ⟨cs', row', z', loc', h8, h9⟩
    · intro s
      (run_tac gR 17 119275975)
      (refine gp [3, 4, 5, 6, 7] 8 [] 0 (by kernel_rfl) ?_; intro ns18 ts18 Gs18 s18)
      refine gput 4 T _ T1 T2 hT (by kernel_rfl) fun n5 t5 G5 => ?_
      intro s
      (refine gp [0, 1, 2, 3] 4 [] 0 (by kernel_rfl) ?_; intro ns19 ts19 Gs19 s19; refine kaw (T := (T)) (GT := GT) 4 ((hn ⟨pP, pB, pFr, pC, W, sp, place, kk⟩ pI (idx + 1) bs bl cs cv (row + sz) sz [(.s sBegin, .i bg)] hdr' hcs (by simp at hcl ⊢; (run_tac om)) hbl (.inr ⟨_, rfl⟩))) (by kernel_rfl) ?_ ?_)
      · exact hB
      rintro r H' ⟨cs', row', z', loc', h8, h9⟩
      rw [List.foldl_cons, step2_no (fun h => of_decide_eq_false h1 h.1)]
      exact ⟨cs', row', z', loc', h8, h9⟩)
  run_tac sq
set_option maxHeartbeats 0 in
theorem cu2_z : Cu2Ok (cx w b1 b2 h₀ d os hk hN) (W2 w b1 b2).params [] := by
  run_tac sq0
  intro I pI idx bs bl cs cv row z loc hdr hcs hcl hbl hloc
  refine sp_of fun pp T GT J hB n t G => ?_
  intro s
  obtain ⟨pP, pB, pFr, pC, W, sp, place, kk⟩ := I
  have hno : bs[idx]? = none := by
    rw [List.drop_eq_nil_iff] at hdr
    rw [List.getElem?_eq_none_iff, hB.lens]
    exact hdr
  have hloc0 := hloc
  rcases hloc with rfl | ⟨y, rfl⟩ <;> (
    (run_tac gR 8 33820737)
    (run_tac Mine.gxT 0)
    intro y' he
    obtain rfl : y' = none := by rw [← he]; simpa using hno
    intro s
    (run_tac gR 9 4161)
    (refine gp [3, 4, 5] 6 [] 0 (by kernel_rfl) ?_; intro ns43 ts43 Gs43 s43)
    refine ke (by kernel_rfl) ?_
    exact ⟨cs, row, z, _, hcs, hloc0, flows 3 (by kernel_rfl)⟩)
  run_tac sq
set_option maxHeartbeats 0 in
theorem cuts_t (hRn : RNu (cx w b1 b2 h₀ d os hk hN)) (hLg : LGl (cx w b1 b2 h₀ d os hk hN)) (hAp : AppL (cx w b1 b2 h₀ d os hk hN)) (h1 : ∀ l, CuOk (cx w b1 b2 h₀ d os hk hN) (W2 w b1 b2).params l) (h2 : ∀ l, Cu2Ok (cx w b1 b2 h₀ d os hk hN) (W2 w b1 b2).params l) : CutsOk (cx w b1 b2 h₀ d os hk hN) := by
  run_tac sq0
  (
  intro pP W sp k1 k2 pcs as hpc hne
  refine sp_of fun pp T GT J hO n t G => ?_
  intro s
  obtain ⟨q, rest, rfl⟩ : ∃ q l, pcs = q :: l := by cases pcs with | nil => exact absurd rfl hne | cons q l => exact ⟨q, l, rfl⟩
  have hal := hO.lens
  rw [List.length_map] at hal
  obtain ⟨a2, x2, o2, ha2, hx2, hm2, kq, jq, eq, rfl⟩ := hO.at (i := 0) (by simp)
  obtain rfl : s2 q = x2 := by simpa using hx2
  obtain ⟨T1, T2, hT⟩ := List.append_of_mem hm2
  have hlen := hpc.2.2.1
  simp only [List.length_cons] at hlen hal
  (run_tac gR 100 3797308022708322446666232719348444127777527818983823971192165113768045062443500023305287332265984)
  refine gint (by kernel_rfl) fun m hm => ?_
  have hm3 : m = (as.length : Int) := by rw [← List.length_map (f := PySem.Value.ref)]; exact hm.trans (by kernel_rfl)
  intro s
  (run_tac gR 2 0)
  (run_tac Mine.gxT 0)
  intro z _
  cases z with
  | isTrue h => exact absurd h (by (run_tac om))
  | isFalse h =>
  intro s
  (run_tac gR 0 0)
  (run_tac Mine.gxT 0)
  intro z _
  cases z with
  | isTrue h => exact absurd h (by (run_tac om))
  | isFalse h =>
  intro s
  (run_tac gR 32 1171221845949812801)
  (run_tac Mine.gxT 0)
  intro z _
  cases z with
  | isTrue h => exact absurd ((congrArg (fun b => !b) (smallU (m := m) (by (run_tac om)) (by (run_tac om)))).symm.trans h) (by decide)
  | isFalse h =>
  intro s
  (run_tac gR 2 0)
  refine gview 0 ⟨.t "range_iterator", none, .fields [.i 0, .i ((rest.length + 1 : Nat) : Int), .i 1]⟩ (rngItU m) (by kernel_rfl) (by rw [itU (by (run_tac om)) (by (run_tac om)), hm3, hal]) fun jv J => ?_
  intro s
  (run_tac gR 6 4161)
  (refine gp [0, 6, 7, 8] 9 [] 0 (by kernel_rfl) ?_; intro ns7 ts7 Gs7 s7)
  (refine gp [0, 1, 2, 3] 4 [] 0 (by kernel_rfl) ?_; intro ns8 ts8 Gs8 s8; refine ko 1 (hRn (n + 7) 0 1 rest.length rfl) (by kernel_rfl) ?_ ?_)
  · trivial
  intro r H' h
  (apply Rets.elim h; intro kx ax J)
  intro n1 t1 G1 s
  (run_tac gR 22 4684887313937871040)
  (refine gp [3, 0, 1, 2] 4 [] 0 (by kernel_rfl) ?_; intro ns11 ts11 Gs11 s11; refine ko 1 (hLg pP 0 0 (argTok 1 (codeOf (‹Cf› : Cf).t)) (as.map .ref) (.ref a2) rfl (by rw [List.getElem?_map, ha2]; rfl) (by rw [List.length_map, hal]; (run_tac om))) (by kernel_rfl) ?_ ?_)
  · trivial
  intro r H' h
  (apply Rets.elim h; intro kg1 ag1 J)
  intro ng1 tg1 Gg1 s
  refine gbring 4 T _ T1 T2 hT (by kernel_rfl) fun n3 t3 G3 => ?_
  intro s
  (run_tac gR 15 85217605)
  (refine gp [0, 1, 2, 3, 4] 5 [] 0 (by kernel_rfl) ?_; intro ns14 ts14 Gs14 s14; refine kb (by kernel_rfl) (fun _ _ => lenstr_ok (x := ⟨⟨q.1⟩⟩) (by kernel_rfl) (by have := (hpc.2.2.2 q (.head _)).1; have h9 := sizeLine_eq; simp only [Str.length, List.size_toArray]; (run_tac om))) ?_)
  rintro r ⟨i1, kli1, rfl, hi1⟩ nli1 tli1 Gli1
  intro s
  (run_tac gR 15 4467857571840)
  (refine gp [0, 1, 2, 3, 4] 5 [] 0 (by kernel_rfl) ?_; intro ns16 ts16 Gs16 s16; refine ko 1 (hLg pP 0 0 (argTok 1 (codeOf (‹Cf› : Cf).t)) (as.map .ref) (.ref a2) rfl (by rw [List.getElem?_map, ha2]; rfl) (by rw [List.length_map, hal]; (run_tac om))) (by kernel_rfl) ?_ ?_)
  · trivial
  intro r H' h
  (apply Rets.elim h; intro kg2 ag2 J)
  intro ng2 tg2 Gg2 s
  (run_tac gR 15 85217605)
  (refine gp [0, 1, 2, 3, 4] 5 [] 0 (by kernel_rfl) ?_; intro ns19 ts19 Gs19 s19; refine kb (by kernel_rfl) (fun _ _ => lenstr_ok (x := ⟨⟨q.2⟩⟩) (by kernel_rfl) (by have := (hpc.2.2.2 q (.head _)).2; have h9 := sizeLine_eq; simp only [Str.length, List.size_toArray]; (run_tac om))) ?_)
  rintro r ⟨i2, kli2, rfl, hi2⟩ nli2 tli2 Gli2
  intro s
  (run_tac gR 41 19189280423701430419712)
  (refine gp [3, 0, 1, 2, 4, 5] 6 [] 0 (by kernel_rfl) ?_; intro ns21 ts21 Gs21 s21; refine ko 1 (hAp (n + 1) [] (.ref (nli2 + 281)) (by simp)) (by kernel_rfl) ?_ ?_)
  · trivial
  intro r H' h
  (apply Rets.elim h; intro kd ad J)
  intro nd td Gd s
  (run_tac gR 18 85197125)
  (refine gp [3, 2, 0, 1, 4, 5] 6 [] 0 (by kernel_rfl) ?_; intro ns24 ts24 Gs24 s24)
  refine gput 5 T _ T1 T2 hT (by kernel_rfl) fun nq tq Gq => ?_
  intro s
  have hsz : sizeI q = i1 + i2 := by rw [hi1, hi2]; rfl
  (refine gp [0, 1, 2, 3, 4] 5 [] 0 (by kernel_rfl) ?_; intro ns25 ts25 Gs25 s25; refine ko 5 ((h1 rest) (n + 7) pP (n + 1) nli2 n 0 W sp (q :: rest) q as [] ⟨[], (0, i1 + i2), 0 + (i1 + i2)⟩ 0 (i1 + i2) hpc rfl rfl (by simp; (run_tac om))) (by kernel_rfl) ?_ ?_)
  · have e : dropC (‹Cf› : Cf).cells 5 = T := by kernel_rfl
    rw [e]
    exact ⟨hO, .nil⟩
  rintro r H' ⟨bs', pL', kk', z', N, X, hX, hB, h⟩
  have e5 : dropC (‹Cf› : Cf).cells 5 = T := by kernel_rfl
  rw [e5] at hX
  subst hX
  have hdl := runC_len sp rest q ⟨[], (0, i1 + i2), 0 + (i1 + i2)⟩
  obtain ⟨⟨done, ⟨bg, sz⟩, place⟩, hS⟩ : ∃ S, S = runC sp q rest ⟨[], (0, i1 + i2), 0 + (i1 + i2)⟩ := ⟨_, rfl⟩
  rw [← hS] at hB h hdl
  (apply Flows.elim h; intro J)
  intro n2 t2 G2 s
  (run_tac gR 78 30633988340194692511908376378360762967517426668218503221185109263913025)
  (refine gp [0, 7, 5, 9, 6, 8] 10 [] 0 (by kernel_rfl) ?_; intro ns28 ts28 Gs28 s28)
  refine gview 1 ⟨.t "list", none, .seqV ((bs' ++ [pL' + 281]).map .ref)⟩ ⟨.t "list", none, .seqV (bs'.map .ref ++ [.ref (pL' + 281)])⟩ (by kernel_rfl) (by rw [List.map_append]; rfl) fun jv J => ?_
  intro s
  obtain ⟨o, ho⟩ : ∃ o : Obj, o = { cls := .type "list", data := .seq #[.int bg (intTok (seqAt (‹Cf› : Cf).cells 5) 0), .int sz (intTok (seqAt (‹Cf› : Cf).cells 5) 1)] (epAt (‹Cf› : Cf).cells 5) } := ⟨_, rfl⟩
  refine gtail 5 (pL' + 281, o) (T ++ N) (by rw [ho]; kernel_rfl) fun nr tr Gr => ?_
  intro s
  have hB2 : Objs blO (T ++ N ++ [(pL' + 281, o)]) (bs' ++ [pL' + 281]) (done ++ [(bg, sz)]) := (hB.sub fun _ h => List.mem_append_left _ h).snoc (List.mem_append_right _ (List.mem_singleton.mpr rfl)) ⟨_, _, _, ho⟩
  have hbl : bs'.length = done.length := hB.lens
  have hdl' : done.length ≤ 0 + rest.length := hdl
  (refine gp [0, 1, 2, 3, 4] 5 [] 0 (by kernel_rfl) ?_; intro ns29 ts29 Gs29 s29; refine kc 4 ((h2 (done ++ [(bg, sz)])) ⟨pP, n + 1, n, n2, W, sp, place, kk'⟩ (n2 + 5) 0 (bs' ++ [pL' + 281]) (done ++ [(bg, sz)]) [] [] 0 z' [] rfl rfl (by simp; (run_tac om)) (by simp; (run_tac om)) (.inl rfl)) (by kernel_rfl) ?_ ?_)
  · have e : dropC (dropC (‹Cf› : Cf).cells 4) 1 = T ++ N ++ [(pL' + 281, o)] := by kernel_rfl
    exact hB2.sub fun _ hq => mem_dropC (e ▸ hq)
  rintro r H' ⟨cs', row', z2, loc', h8, hl, h⟩
  have hcut : cutsOf W sp (q :: rest) = ((done ++ [(bg, sz)]).foldl (step2 W) ([], 0)).1 := by
    show ((let S := runC sp q rest ⟨[], (0, sizeI q), 0 + sizeI q⟩; S.done ++ [S.last]).foldl (step2 W) ([], 0)).1 = _
    rw [hsz, ← hS]
  (apply Flows.elim h; intro J)
  intro n4 t4 G4 s
  rcases hl with rfl | ⟨y, rfl⟩ <;> (
    (run_tac gR 3 3)
    (refine gp [1, 3] 4 [] 0 (by kernel_rfl) ?_; intro ns32 ts32 Gs32 s32)
    refine ke (by kernel_rfl) ?_
    exact ⟨n2, cs', N ++ [(pL' + 281, o)], T ++ N ++ [(pL' + 281, o)], List.append_assoc .., by rw [hcut]; exact h8, rets 2 (by kernel_rfl)⟩)
  )
  run_tac sq
set_option maxHeartbeats 0 in
theorem cd1_t (hAp : AppL (cx w b1 b2 h₀ d os hk hN)) (hNx : LNx (cx w b1 b2 h₀ d os hk hN)) (x : Int) (rest : List Int) (hn : CdOk (cx w b1 b2 h₀ d os hk hN) (ce1 (W2 w b1 b2).params) rest) : CdOk (cx w b1 b2 h₀ d os hk hN) (ce1 (W2 w b1 b2).params) (x :: rest) := by
  run_tac sq0
  intro pI pA pCd pFr pPc pC idx xs ys place loc hxs hyl hloc
  refine sp_of fun pp T GT J hP n t G => ?_
  intro s
  obtain ⟨v, hv, hvx, hrest⟩ := drop_cons hxs
  rcases hloc with rfl | ⟨y, rfl⟩ <;> (
    (run_tac gR 4 65)
    (refine gp [0, 3, 1, 2, 4] 5 [] 0 (by kernel_rfl) ?_; intro ns2 ts2 Gs2 s2; refine ko 2 (hNx pI pC idx xs v hv) (by kernel_rfl) ?_ ?_)
    · trivial
    intro r H' h
    rw [hvx] at h
    (apply Rets.elim h; intro k9 a9 J)
    intro n1 t1 G1 s
    (run_tac gR 16 1158693120)
    refine gs (decide (x ≤ place)) (by kernel_rfl) (fun hb => ?_) (fun hb => ?_)
    · intro s
      (run_tac gR 5 196)
      (refine gp [2, 0, 1, 3, 4] 5 [] 0 (by kernel_rfl) ?_; intro ns6 ts6 Gs6 s6; refine ko 1 (hAp pA ys (.int x (argTok 1 (codeOf (‹Cf› : Cf).t))) (by simp only [List.length_cons] at hyl; (run_tac om))) (by kernel_rfl) ?_ ?_)
      · trivial
      intro r H' h
      obtain ⟨w0, hw0⟩ : ∃ w0 : PySem.Value, w0 = .int x (argTok 1 (codeOf (‹Cf› : Cf).t)) := ⟨_, rfl⟩
      rw [← hw0] at h
      (apply Rets.elim h; intro k8 a8 J)
      intro n3 t3 G3 s
      (run_tac gR 1 0)
      (refine gp [1, 0, 3, 2, 4] 5 [] 0 (by kernel_rfl) ?_; intro ns9 ts9 Gs9 s9; refine kaw (T := (T)) (GT := GT) 5 ((hn pI pA pCd pFr pPc pC (idx + 1) xs (ys ++ [w0]) place [(.s sCut, .i x)] hrest (by simp only [List.length_cons, List.length_append, List.length_nil] at hyl ⊢; (run_tac om)) (.inr ⟨_, rfl⟩))) (by kernel_rfl) ?_ ?_)
      · trivial
      rintro r H' ⟨ys', loc', h1, h2, h3⟩
      exact ⟨ys', loc', by rw [h1, cnt_yes (of_decide_eq_true hb), List.length_append]; simp only [List.length_cons, List.length_nil]; (run_tac om), h2, h3⟩
    · intro s
      (run_tac gR 1 0)
      (refine gp [0, 2, 3, 1, 4] 5 [] 0 (by kernel_rfl) ?_; intro ns12 ts12 Gs12 s12; refine kaw (T := (T)) (GT := GT) 5 ((hn pI pA pCd pFr pPc pC (idx + 1) xs ys place [(.s sCut, .i x)] hrest (by simp only [List.length_cons] at hyl ⊢; (run_tac om)) (.inr ⟨_, rfl⟩))) (by kernel_rfl) ?_ ?_)
      · trivial
      rintro r H' ⟨ys', loc', h1, h2, h3⟩
      exact ⟨ys', loc', by rw [h1, cnt_no (of_decide_eq_false hb)], h2, h3⟩)
  run_tac sq
set_option maxHeartbeats 0 in
theorem cd1_z : CdOk (cx w b1 b2 h₀ d os hk hN) (ce1 (W2 w b1 b2).params) [] := by
  run_tac sq0
  intro pI pA pCd pFr pPc pC idx xs ys place loc hxs hyl hloc
  refine sp_of fun pp T GT J hP n t G => ?_
  intro s
  have hno := drop_nil hxs
  have hloc0 := hloc
  rcases hloc with rfl | ⟨y, rfl⟩ <;> (
    (run_tac gR 8 67375169)
    (run_tac Mine.gxT 0)
    intro y' he
    obtain rfl : y' = none := by rw [← he]; simpa using hno
    intro s
    (run_tac gR 8 4161)
    (refine gp [3, 4, 5, 6] 7 [] 0 (by kernel_rfl) ?_; intro ns29 ts29 Gs29 s29)
    refine ke (by kernel_rfl) ?_
    exact ⟨ys, _, (Nat.add_zero _).symm, hloc0, flows 4 (by kernel_rfl)⟩)
  run_tac sq
set_option maxHeartbeats 0 in
theorem cd1_s (hn : ∀ l, CdOk (cx w b1 b2 h₀ d os hk hN) (ce1 (W2 w b1 b2).params) l) : CsOk (cx w b1 b2 h₀ d os hk hN) (ce1 (W2 w b1 b2).params) := by
  run_tac sq0
  intro pI pA pCd pFr pPc pC xs cv place hxs hl
  refine sp_of fun pp T GT J hP n t G => ?_
  intro s
  cases b1
  · (run_tac gR 11 1090785344)
    (refine gp [0, 1, 2, 3, 4] 5 [] 0 (by kernel_rfl) ?_; intro ns34 ts34 Gs34 s34; refine kaw (T := (T)) (GT := GT) 5 ((hn cv pI pA pCd pFr pPc pC 0 xs [] place [] (by rw [List.drop_zero]; exact hxs) (by simpa using hl) (.inl rfl))) (by kernel_rfl) ?_ ?_)
    · trivial
    rintro r H' ⟨ys', loc', h1, h2, h3⟩
    exact ⟨ys', loc', by simpa using h1, h2, h3⟩
  · (run_tac gR 1 0)
    (refine gp [0, 1, 2, 3, 4] 5 [] 0 (by kernel_rfl) ?_; intro ns37 ts37 Gs37 s37; refine kaw (T := (T)) (GT := GT) 5 ((hn cv pI pA pCd pFr pPc pC 0 xs [] place [] (by rw [List.drop_zero]; exact hxs) (by simpa using hl) (.inl rfl))) (by kernel_rfl) ?_ ?_)
    · trivial
    rintro r H' ⟨ys', loc', h1, h2, h3⟩
    exact ⟨ys', loc', by simpa using h1, h2, h3⟩
  run_tac sq
set_option maxHeartbeats 0 in
theorem cd2_t (hAp : AppL (cx w b1 b2 h₀ d os hk hN)) (hNx : LNx (cx w b1 b2 h₀ d os hk hN)) (x : Int) (rest : List Int) (hn : CdOk (cx w b1 b2 h₀ d os hk hN) (ce2 (W2 w b1 b2).params) rest) : CdOk (cx w b1 b2 h₀ d os hk hN) (ce2 (W2 w b1 b2).params) (x :: rest) := by
  run_tac sq0
  intro pI pA pCd pFr pPc pC idx xs ys place loc hxs hyl hloc
  refine sp_of fun pp T GT J hP n t G => ?_
  intro s
  obtain ⟨v, hv, hvx, hrest⟩ := drop_cons hxs
  rcases hloc with rfl | ⟨y, rfl⟩ <;> (
    (run_tac gR 4 65)
    (refine gp [0, 3, 1, 2, 4] 5 [] 0 (by kernel_rfl) ?_; intro ns2 ts2 Gs2 s2; refine ko 2 (hNx pI pC idx xs v hv) (by kernel_rfl) ?_ ?_)
    · trivial
    intro r H' h
    rw [hvx] at h
    (apply Rets.elim h; intro k9 a9 J)
    intro n1 t1 G1 s
    (run_tac gR 16 1158693120)
    refine gs (decide (x ≤ place)) (by kernel_rfl) (fun hb => ?_) (fun hb => ?_)
    · intro s
      (run_tac gR 5 196)
      (refine gp [2, 0, 1, 3, 4] 5 [] 0 (by kernel_rfl) ?_; intro ns6 ts6 Gs6 s6; refine ko 1 (hAp pA ys (.int x (argTok 1 (codeOf (‹Cf› : Cf).t))) (by simp only [List.length_cons] at hyl; (run_tac om))) (by kernel_rfl) ?_ ?_)
      · trivial
      intro r H' h
      obtain ⟨w0, hw0⟩ : ∃ w0 : PySem.Value, w0 = .int x (argTok 1 (codeOf (‹Cf› : Cf).t)) := ⟨_, rfl⟩
      rw [← hw0] at h
      (apply Rets.elim h; intro k8 a8 J)
      intro n3 t3 G3 s
      (run_tac gR 1 0)
      (refine gp [1, 0, 3, 2, 4] 5 [] 0 (by kernel_rfl) ?_; intro ns9 ts9 Gs9 s9; refine kaw (T := (T)) (GT := GT) 5 ((hn pI pA pCd pFr pPc pC (idx + 1) xs (ys ++ [w0]) place [(.s sCut, .i x)] hrest (by simp only [List.length_cons, List.length_append, List.length_nil] at hyl ⊢; (run_tac om)) (.inr ⟨_, rfl⟩))) (by kernel_rfl) ?_ ?_)
      · trivial
      rintro r H' ⟨ys', loc', h1, h2, h3⟩
      exact ⟨ys', loc', by rw [h1, cnt_yes (of_decide_eq_true hb), List.length_append]; simp only [List.length_cons, List.length_nil]; (run_tac om), h2, h3⟩
    · intro s
      (run_tac gR 1 0)
      (refine gp [0, 2, 3, 1, 4] 5 [] 0 (by kernel_rfl) ?_; intro ns12 ts12 Gs12 s12; refine kaw (T := (T)) (GT := GT) 5 ((hn pI pA pCd pFr pPc pC (idx + 1) xs ys place [(.s sCut, .i x)] hrest (by simp only [List.length_cons] at hyl ⊢; (run_tac om)) (.inr ⟨_, rfl⟩))) (by kernel_rfl) ?_ ?_)
      · trivial
      rintro r H' ⟨ys', loc', h1, h2, h3⟩
      exact ⟨ys', loc', by rw [h1, cnt_no (of_decide_eq_false hb)], h2, h3⟩)
  run_tac sq
set_option maxHeartbeats 0 in
theorem cd2_z : CdOk (cx w b1 b2 h₀ d os hk hN) (ce2 (W2 w b1 b2).params) [] := by
  run_tac sq0
  intro pI pA pCd pFr pPc pC idx xs ys place loc hxs hyl hloc
  refine sp_of fun pp T GT J hP n t G => ?_
  intro s
  have hno := drop_nil hxs
  have hloc0 := hloc
  rcases hloc with rfl | ⟨y, rfl⟩ <;> (
    (run_tac gR 8 67375169)
    (run_tac Mine.gxT 0)
    intro y' he
    obtain rfl : y' = none := by rw [← he]; simpa using hno
    intro s
    (run_tac gR 8 4161)
    (refine gp [3, 4, 5, 6] 7 [] 0 (by kernel_rfl) ?_; intro ns29 ts29 Gs29 s29)
    refine ke (by kernel_rfl) ?_
    exact ⟨ys, _, (Nat.add_zero _).symm, hloc0, flows 4 (by kernel_rfl)⟩)
  run_tac sq
set_option maxHeartbeats 0 in
theorem cd2_s (hn : ∀ l, CdOk (cx w b1 b2 h₀ d os hk hN) (ce2 (W2 w b1 b2).params) l) : CsOk (cx w b1 b2 h₀ d os hk hN) (ce2 (W2 w b1 b2).params) := by
  run_tac sq0
  intro pI pA pCd pFr pPc pC xs cv place hxs hl
  refine sp_of fun pp T GT J hP n t G => ?_
  intro s
  cases b1
  · (run_tac gR 11 1090785344)
    (refine gp [0, 1, 2, 3, 4] 5 [] 0 (by kernel_rfl) ?_; intro ns34 ts34 Gs34 s34; refine kaw (T := (T)) (GT := GT) 5 ((hn cv pI pA pCd pFr pPc pC 0 xs [] place [] (by rw [List.drop_zero]; exact hxs) (by simpa using hl) (.inl rfl))) (by kernel_rfl) ?_ ?_)
    · trivial
    rintro r H' ⟨ys', loc', h1, h2, h3⟩
    exact ⟨ys', loc', by simpa using h1, h2, h3⟩
  · (run_tac gR 1 0)
    (refine gp [0, 1, 2, 3, 4] 5 [] 0 (by kernel_rfl) ?_; intro ns37 ts37 Gs37 s37; refine kaw (T := (T)) (GT := GT) 5 ((hn cv pI pA pCd pFr pPc pC 0 xs [] place [] (by rw [List.drop_zero]; exact hxs) (by simpa using hl) (.inl rfl))) (by kernel_rfl) ?_ ?_)
    · trivial
    rintro r H' ⟨ys', loc', h1, h2, h3⟩
    exact ⟨ys', loc', by simpa using h1, h2, h3⟩
  run_tac sq
set_option maxHeartbeats 0 in
theorem lln_t : LLn (cx w b1 b2 h₀ d os hk hN) := by
  run_tac sq0
  (
  intro p xs hl
  refine sp_of fun pp T GT J hP n t G => ?_
  intro s
  (run_tac gR 6 4161)
  refine gint (by kernel_rfl) fun m hm => ?_
  have hm3 : m = (xs.length : Int) := hm.trans (by kernel_rfl)
  intro s
  (run_tac gR 2 0)
  (run_tac Mine.gxT 0)
  intro z _
  cases z with
  | isTrue h => exact absurd h (by (run_tac om))
  | isFalse h =>
    intro s
    (run_tac gR 0 0)
    (run_tac Mine.gxT 0)
    intro z _
    cases z with
    | isTrue h => exact absurd h (by (run_tac om))
    | isFalse h =>
      intro s
      (run_tac gR 1 0)
      (refine gp [0] 1 [] 0 (by kernel_rfl) ?_; intro ns5 ts5 Gs5 s5)
      refine ke (by kernel_rfl) ?_
      rw [← hm3]
      exact rets 1 (by kernel_rfl)
  )
  run_tac sq
set_option maxHeartbeats 0 in
theorem du_s (hNx : SNx (cx w b1 b2 h₀ d os hk hN)) (hLg : LGl (cx w b1 b2 h₀ d os hk hN)) (hBr : BareOk (cx w b1 b2 h₀ d os hk hN)) (hLc : LcI (cx w b1 b2 h₀ d os hk hN)) (hAp : AppL (cx w b1 b2 h₀ d os hk hN)) (hLn : LLn (cx w b1 b2 h₀ d os hk hN)) (hCs : CsOk (cx w b1 b2 h₀ d os hk hN) (ce1 (W2 w b1 b2).params)) (c : Nat) (rest : List Nat) (hn : DuIOk (cx w b1 b2 h₀ d os hk hN) (W2 w b1 b2).params rest) : DuIOk (cx w b1 b2 h₀ d os hk hN) (W2 w b1 b2).params (c :: rest) := by
  run_tac sq0
  intro I pI idx kk cs0 ms cs cv v m ds S loc hcs hcv hcl hmv hvm hml hdl htl hloc
  refine sp_of fun pp T GT J hO n t G => ?_
  intro s
  obtain ⟨pW, pM, pC, pD, pFr, pPc⟩ := I
  obtain ⟨ent, tok, place⟩ := S
  obtain ⟨hc, hrest⟩ := at_of hcs
  have hkm := (List.getElem?_eq_some_iff.mp hmv).1
  rcases hloc with rfl | ⟨y, rfl⟩ <;> (
    (run_tac gR 4 65)
    (refine gp [0, 1, 2, 3, 4, 5] 6 [] 0 (by kernel_rfl) ?_; intro ns2 ts2 Gs2 s2; refine ko 1 (hNx pI idx c cs0 hc) (by kernel_rfl) ?_ ?_)
    · trivial
    intro r H' h
    (apply Rets.elim h; intro k9 a9 J)
    intro n1 t1 G1 s
    (run_tac gR 23 4684887523418202496)
    (refine gp [3, 0, 1, 2, 4, 5] 6 [] 0 (by kernel_rfl) ?_; intro ns5 ts5 Gs5 s5; refine ko 1 (hLg pM kk (kk : Int) (argTok 1 (codeOf (‹Cf› : Cf).t)) ms v rfl hmv (by (run_tac om))) (by kernel_rfl) ?_ ?_)
    · trivial
    intro r H' h
    rw [hvm] at h
    (apply Rets.elim h; intro k8 a8 J)
    intro n2 t2 G2 s
    (run_tac gR 3 0)
    (refine gp [0, 1, 2, 3, 4, 5] 6 [] 0 (by kernel_rfl) ?_; intro ns8 ts8 Gs8 s8; refine kc 0 (hBr c m (argTok 0 (codeOf (‹Cf› : Cf).t)) (argTok 1 (codeOf (‹Cf› : Cf).t))) (by kernel_rfl) ?_ ?_)
    · trivial
    intro r H' h
    cases hb : bareB c m with
    | true =>
      rw [hb] at h
      (apply Rets.elim h; intro k7 a7 J)
      intro n3 t3 G3 s
      (run_tac gR 10 70)
      refine gs (([c] : List Nat) == [32]) (by kernel_rfl) (fun hc32 => ?_) (fun hc32 => ?_)
      · obtain rfl : c = 32 := by simpa using hc32
        intro s
        (run_tac gR 10 85217668)
        (refine gp [4, 0, 1, 2, 3, 5] 6 [] 0 (by kernel_rfl) ?_; intro ns12 ts12 Gs12 s12; refine ko 1 (hLc pC cs cv (place) (argTok 1 (codeOf (‹Cf› : Cf).t)) hcv) (by kernel_rfl) ?_ ?_)
        · trivial
        intro r H' h
        by_cases hp : place ∈ cv
        · rw [decide_eq_true hp] at h
          (apply Rets.elim h; intro kc0 ac0 J)
          intro nc tc Gc s
          (run_tac gR 7 6)
          (refine gp [0, 1, 2, 3, 4, 5] 6 [] 0 (by kernel_rfl) ?_; intro ns15 ts15 Gs15 s15; refine kb (by kernel_rfl) (fun _ _ => stradd_ok (x := ⟨⟨tok⟩⟩) (y := ⟨⟨[10]⟩⟩) (by kernel_rfl) (by rw [len_app]; have h9 := sizeLine_eq; simp only [Str.length, List.size_toArray, List.length_cons, List.length_nil, List.length_append] at htl ⊢; (run_tac om))) ?_)
          rintro _ ⟨z, kz1, rfl, hz⟩
          obtain rfl : z = ⟨⟨tok ++ [10]⟩⟩ := hz.trans (app_list _ _)
          intro nz1 tz1 Gz1 s
          (run_tac gR 19 571885735141760)
          (refine gp [1, 0, 2, 3, 4, 5] 6 [] 0 (by kernel_rfl) ?_; intro ns17 ts17 Gs17 s17; refine ko 1 (hLg pM kk (kk : Int) (argTok 1 (codeOf (‹Cf› : Cf).t)) ms v rfl hmv (by (run_tac om))) (by kernel_rfl) ?_ ?_)
          · trivial
          intro r H' h
          rw [hvm] at h
          (apply Rets.elim h; intro km2 am2 J)
          intro nm2 tm2 Gm2 s
          (run_tac gR 6 1)
          refine gs (decide (m = 0)) (by kernel_rfl) (fun hm0 => ?_) (fun hm0 => ?_)
          · intro s
            (run_tac gR 31 311752318406354025857286)
            (refine gp [2, 1, 0, 4, 7, 3, 5, 6, 8] 9 [] 0 (by kernel_rfl) ?_; intro ns21 ts21 Gs21 s21; refine kc 5 (hCs nm2 (nm2 + 1) (nm2 + 2) pFr pPc pC cs cv place hcv hcl) (by kernel_rfl) ?_ ?_)
            · trivial
            rintro r H' ⟨ys', loc', hyl, hlc, h⟩
            have hyb : ys'.length ≤ 900 := by rw [hyl]; exact Nat.le_trans (List.length_filter_le _ _) hcl
            (apply Flows.elim h; intro J)
            intro nq tq Gq s
            rcases hlc with rfl | ⟨vc, rfl⟩
            · (run_tac gR 3 2)
              (refine gp [0, 2, 3, 4, 5, 6, 7] 8 [] 0 (by kernel_rfl) ?_; intro ns24 ts24 Gs24 s24; refine ko 1 (hLn (nm2 + 1) ys' (by (run_tac om))) (by kernel_rfl) ?_ ?_)
              · trivial
              intro r H' h
              rw [hyl] at h
              (apply Rets.elim h; intro kw aw J)
              intro nw tw Gw s
              (run_tac gR 11 7)
              (refine gp [6, 0, 2, 3, 4, 5, 7] 8 [] 0 (by kernel_rfl) ?_; intro ns27 ts27 Gs27 s27; refine ko 1 (hAp pD (ds.map .ref) (.ref (nw + 281)) (by simp only [List.length_cons, List.length_map] at hdl ⊢; (run_tac om))) (by kernel_rfl) ?_ ?_)
              · trivial
              intro r H' h
              (apply Rets.elim h; intro kv av J)
              intro nv tv Gv s
              (run_tac gR 24 4363153856)
              (refine gp [5, 0, 3, 4, 2, 6, 1] 7 [] 0 (by kernel_rfl) ?_; intro ns30 ts30 Gs30 s30)
              refine gview 1 ⟨.t "list", none, .seqV ((ds ++ [nw + 281]).map .ref)⟩ ⟨.t "list", none, .seqV (ds.map .ref ++ [.ref (nw + 281)])⟩ (by kernel_rfl) (by rw [List.map_append]; rfl) fun jv J => ?_
              intro s
              obtain ⟨o, ho⟩ : ∃ o : Obj, o = { cls := .type "tuple", data := .seq #[.str ⟨⟨tok ++ [10]⟩⟩ (strTok (seqAt (‹Cf› : Cf).cells 6) 0), .int (1 + (cntC cv place : Int)) (intTok (seqAt (‹Cf› : Cf).cells 6) 1)] (epAt (‹Cf› : Cf).cells 6) } := ⟨_, rfl⟩
              refine gtail 6 (nw + 281, o) T (by rw [ho]; kernel_rfl) fun nr tr Gr => ?_
              intro s
              (refine gp [0, 1, 2, 3, 4, 5] 6 [] 0 (by kernel_rfl) ?_; intro ns31 ts31 Gs31 s31; refine kaw (T := ((T ++ [(nw + 281, o)]))) (GT := GT) 6 ((hn ⟨pW, pM, pC, pD, pFr, pPc⟩ pI (idx + 1) kk cs0 ms cs cv v m (ds ++ [nw + 281]) ⟨ent ++ [(tok ++ [10], 1 + (cntC cv place : Int))], [], place + 1⟩ [(.s sSign, .s ⟨#[32]⟩)] hrest hcv hcl hmv hvm hml (by simp only [List.length_cons, List.length_append, List.length_nil] at hdl ⊢; (run_tac om)) (by simp only [List.length_cons, List.length_nil] at htl ⊢; (run_tac om)) (.inr ⟨_, rfl⟩))) (by kernel_rfl) ?_ ?_)
              · exact (hO.sub fun _ h => List.mem_append_left _ h).snoc (List.mem_append_right _ (List.mem_singleton.mpr rfl)) ⟨_, _, _, ho⟩
              rintro r H' ⟨ds', loc', N, X, hX, hl', h2, h3⟩
              rw [List.foldl_cons, stepD_b (if_pos hb) hp (of_decide_eq_true hm0)]
              exact ⟨ds', loc', _, X, hX.trans (List.append_assoc ..), locP_cons hl', h2, h3⟩
            · (run_tac gR 7 8322)
              (refine gp [0, 2, 3, 4, 5, 6, 7] 8 [] 0 (by kernel_rfl) ?_; intro ns34 ts34 Gs34 s34; refine ko 1 (hLn (nm2 + 1) ys' (by (run_tac om))) (by kernel_rfl) ?_ ?_)
              · trivial
              intro r H' h
              rw [hyl] at h
              (apply Rets.elim h; intro kw aw J)
              intro nw tw Gw s
              (run_tac gR 11 7)
              (refine gp [6, 0, 2, 3, 4, 5, 7] 8 [] 0 (by kernel_rfl) ?_; intro ns37 ts37 Gs37 s37; refine ko 1 (hAp pD (ds.map .ref) (.ref (nw + 281)) (by simp only [List.length_cons, List.length_map] at hdl ⊢; (run_tac om))) (by kernel_rfl) ?_ ?_)
              · trivial
              intro r H' h
              (apply Rets.elim h; intro kv av J)
              intro nv tv Gv s
              (run_tac gR 24 4363153856)
              (refine gp [5, 0, 3, 4, 2, 6, 1] 7 [] 0 (by kernel_rfl) ?_; intro ns40 ts40 Gs40 s40)
              refine gview 1 ⟨.t "list", none, .seqV ((ds ++ [nw + 281]).map .ref)⟩ ⟨.t "list", none, .seqV (ds.map .ref ++ [.ref (nw + 281)])⟩ (by kernel_rfl) (by rw [List.map_append]; rfl) fun jv J => ?_
              intro s
              obtain ⟨o, ho⟩ : ∃ o : Obj, o = { cls := .type "tuple", data := .seq #[.str ⟨⟨tok ++ [10]⟩⟩ (strTok (seqAt (‹Cf› : Cf).cells 6) 0), .int (1 + (cntC cv place : Int)) (intTok (seqAt (‹Cf› : Cf).cells 6) 1)] (epAt (‹Cf› : Cf).cells 6) } := ⟨_, rfl⟩
              refine gtail 6 (nw + 281, o) T (by rw [ho]; kernel_rfl) fun nr tr Gr => ?_
              intro s
              (refine gp [0, 1, 2, 3, 4, 5] 6 [] 0 (by kernel_rfl) ?_; intro ns41 ts41 Gs41 s41; refine kaw (T := ((T ++ [(nw + 281, o)]))) (GT := GT) 6 ((hn ⟨pW, pM, pC, pD, pFr, pPc⟩ pI (idx + 1) kk cs0 ms cs cv v m (ds ++ [nw + 281]) ⟨ent ++ [(tok ++ [10], 1 + (cntC cv place : Int))], [], place + 1⟩ [(.s sSign, .s ⟨#[32]⟩)] hrest hcv hcl hmv hvm hml (by simp only [List.length_cons, List.length_append, List.length_nil] at hdl ⊢; (run_tac om)) (by simp only [List.length_cons, List.length_nil] at htl ⊢; (run_tac om)) (.inr ⟨_, rfl⟩))) (by kernel_rfl) ?_ ?_)
              · exact (hO.sub fun _ h => List.mem_append_left _ h).snoc (List.mem_append_right _ (List.mem_singleton.mpr rfl)) ⟨_, _, _, ho⟩
              rintro r H' ⟨ds', loc', N, X, hX, hl', h2, h3⟩
              rw [List.foldl_cons, stepD_b (if_pos hb) hp (of_decide_eq_true hm0)]
              exact ⟨ds', loc', _, X, hX.trans (List.append_assoc ..), locP_cons hl', h2, h3⟩
          · intro s
            (run_tac gR 7 6)
            (refine gp [0, 1, 2, 3, 4, 5] 6 [] 0 (by kernel_rfl) ?_; intro ns44 ts44 Gs44 s44; refine kb (by kernel_rfl) (fun _ _ => stradd_ok (x := ⟨⟨(tok ++ [10])⟩⟩) (y := ⟨⟨[32]⟩⟩) (by kernel_rfl) (by rw [len_app]; have h9 := sizeLine_eq; simp only [Str.length, List.size_toArray, List.length_cons, List.length_nil, List.length_append] at htl ⊢; (run_tac om))) ?_)
            rintro _ ⟨z, kz3, rfl, hz⟩
            obtain rfl : z = ⟨⟨(tok ++ [10]) ++ [32]⟩⟩ := hz.trans (app_list _ _)
            intro nz3 tz3 Gz3 s
            (run_tac gR 21 5453930880)
            (refine gp [2, 3, 4, 0, 1, 5] 6 [] 0 (by kernel_rfl) ?_; intro ns46 ts46 Gs46 s46; refine kaw (T := (T)) (GT := GT) 6 ((hn ⟨pW, pM, pC, pD, pFr, pPc⟩ pI (idx + 1) kk cs0 ms cs cv v m ds ⟨ent, tok ++ [10] ++ [32], place + 1⟩ [(.s sSign, .s ⟨#[32]⟩)] hrest hcv hcl hmv hvm hml (by simp only [List.length_cons] at hdl; (run_tac om)) (by simp only [List.length_cons, List.length_append, List.length_nil] at htl ⊢; (run_tac om)) (.inr ⟨_, rfl⟩))) (by kernel_rfl) ?_ ?_)
            · exact hO
            rintro r H' ⟨ds', loc', N, X, hX, hl', h2, h3⟩
            rw [List.foldl_cons, stepD_c (if_pos hb) hp (of_decide_eq_false hm0)]
            exact ⟨ds', loc', N, X, hX, locP_cons hl', h2, h3⟩
        · rw [decide_eq_false hp] at h
          (apply Rets.elim h; intro kc0 ac0 J)
          intro nc tc Gc s
          (run_tac gR 8 390)
          (refine gp [0, 1, 2, 3, 4, 5] 6 [] 0 (by kernel_rfl) ?_; intro ns49 ts49 Gs49 s49; refine kb (by kernel_rfl) (fun _ _ => stradd_ok (x := ⟨⟨tok⟩⟩) (y := ⟨⟨[32]⟩⟩) (by kernel_rfl) (by rw [len_app]; have h9 := sizeLine_eq; simp only [Str.length, List.size_toArray, List.length_cons, List.length_nil, List.length_append] at htl ⊢; (run_tac om))) ?_)
          rintro _ ⟨z, kz4, rfl, hz⟩
          obtain rfl : z = ⟨⟨tok ++ [32]⟩⟩ := hz.trans (app_list _ _)
          intro nz4 tz4 Gz4 s
          (run_tac gR 21 5453930880)
          (refine gp [2, 3, 4, 1, 0, 5] 6 [] 0 (by kernel_rfl) ?_; intro ns51 ts51 Gs51 s51; refine kaw (T := (T)) (GT := GT) 6 ((hn ⟨pW, pM, pC, pD, pFr, pPc⟩ pI (idx + 1) kk cs0 ms cs cv v m ds ⟨ent, tok ++ [32], place + 1⟩ [(.s sSign, .s ⟨#[32]⟩)] hrest hcv hcl hmv hvm hml (by simp only [List.length_cons] at hdl; (run_tac om)) (by simp only [List.length_cons, List.length_append, List.length_nil] at htl ⊢; (run_tac om)) (.inr ⟨_, rfl⟩))) (by kernel_rfl) ?_ ?_)
          · exact hO
          rintro r H' ⟨ds', loc', N, X, hX, hl', h2, h3⟩
          rw [List.foldl_cons, stepD_a (if_pos hb) (.inr hp)]
          exact ⟨ds', loc', N, X, hX, locP_cons hl', h2, h3⟩
      · have hc2 : c ≠ 32 := by simpa using hc32
        intro s
        (run_tac gR 8 390)
        (refine gp [0, 1, 2, 3, 4, 5] 6 [] 0 (by kernel_rfl) ?_; intro ns54 ts54 Gs54 s54; refine kb (by kernel_rfl) (fun _ _ => stradd_ok (x := ⟨⟨tok⟩⟩) (y := ⟨⟨[c]⟩⟩) (by kernel_rfl) (by rw [len_app]; have h9 := sizeLine_eq; simp only [Str.length, List.size_toArray, List.length_cons, List.length_nil, List.length_append] at htl ⊢; (run_tac om))) ?_)
        rintro _ ⟨z, kz5, rfl, hz⟩
        obtain rfl : z = ⟨⟨tok ++ [c]⟩⟩ := hz.trans (app_list _ _)
        intro nz5 tz5 Gz5 s
        (run_tac gR 21 4363149696)
        (refine gp [1, 2, 3, 0, 4, 5] 6 [] 0 (by kernel_rfl) ?_; intro ns56 ts56 Gs56 s56; refine kaw (T := (T)) (GT := GT) 6 ((hn ⟨pW, pM, pC, pD, pFr, pPc⟩ pI (idx + 1) kk cs0 ms cs cv v m ds ⟨ent, tok ++ [c], place + 1⟩ [(.s sSign, .s ⟨#[c]⟩)] hrest hcv hcl hmv hvm hml (by simp only [List.length_cons] at hdl; (run_tac om)) (by simp only [List.length_cons, List.length_append, List.length_nil] at htl ⊢; (run_tac om)) (.inr ⟨_, rfl⟩))) (by kernel_rfl) ?_ ?_)
        · exact hO
        rintro r H' ⟨ds', loc', N, X, hX, hl', h2, h3⟩
        rw [List.foldl_cons, stepD_a (if_pos hb) (.inl hc2)]
        exact ⟨ds', loc', N, X, hX, locP_cons hl', h2, h3⟩
    | false =>
      rw [hb] at h
      (apply Rets.elim h; intro k7 a7 J)
      intro n3 t3 G3 s
      (run_tac gR 23 18366724)
      refine gs (([c] : List Nat) == [32]) (by kernel_rfl) (fun hc32 => ?_) (fun hc32 => ?_)
      · obtain rfl : c = 32 := by simpa using hc32
        intro s
        (run_tac gR 10 85217668)
        (refine gp [4, 0, 1, 2, 3, 5] 6 [] 0 (by kernel_rfl) ?_; intro ns60 ts60 Gs60 s60; refine ko 1 (hLc pC cs cv ((place + 1)) (argTok 1 (codeOf (‹Cf› : Cf).t)) hcv) (by kernel_rfl) ?_ ?_)
        · trivial
        intro r H' h
        by_cases hp : (place + 1) ∈ cv
        · rw [decide_eq_true hp] at h
          (apply Rets.elim h; intro kc0 ac0 J)
          intro nc tc Gc s
          (run_tac gR 7 6)
          (refine gp [0, 1, 2, 3, 4, 5] 6 [] 0 (by kernel_rfl) ?_; intro ns63 ts63 Gs63 s63; refine kb (by kernel_rfl) (fun _ _ => stradd_ok (x := ⟨⟨tok⟩⟩) (y := ⟨⟨[10]⟩⟩) (by kernel_rfl) (by rw [len_app]; have h9 := sizeLine_eq; simp only [Str.length, List.size_toArray, List.length_cons, List.length_nil, List.length_append] at htl ⊢; (run_tac om))) ?_)
          rintro _ ⟨z, kz1, rfl, hz⟩
          obtain rfl : z = ⟨⟨tok ++ [10]⟩⟩ := hz.trans (app_list _ _)
          intro nz1 tz1 Gz1 s
          (run_tac gR 19 571885735141760)
          (refine gp [1, 0, 2, 3, 4, 5] 6 [] 0 (by kernel_rfl) ?_; intro ns65 ts65 Gs65 s65; refine ko 1 (hLg pM kk (kk : Int) (argTok 1 (codeOf (‹Cf› : Cf).t)) ms v rfl hmv (by (run_tac om))) (by kernel_rfl) ?_ ?_)
          · trivial
          intro r H' h
          rw [hvm] at h
          (apply Rets.elim h; intro km2 am2 J)
          intro nm2 tm2 Gm2 s
          (run_tac gR 6 1)
          refine gs (decide (m = 0)) (by kernel_rfl) (fun hm0 => ?_) (fun hm0 => ?_)
          · intro s
            (run_tac gR 31 311752318406354025857286)
            (refine gp [2, 1, 0, 4, 7, 3, 5, 6, 8] 9 [] 0 (by kernel_rfl) ?_; intro ns69 ts69 Gs69 s69; refine kc 5 (hCs nm2 (nm2 + 1) (nm2 + 2) pFr pPc pC cs cv (place + 1) hcv hcl) (by kernel_rfl) ?_ ?_)
            · trivial
            rintro r H' ⟨ys', loc', hyl, hlc, h⟩
            have hyb : ys'.length ≤ 900 := by rw [hyl]; exact Nat.le_trans (List.length_filter_le _ _) hcl
            (apply Flows.elim h; intro J)
            intro nq tq Gq s
            rcases hlc with rfl | ⟨vc, rfl⟩
            · (run_tac gR 3 2)
              (refine gp [0, 2, 3, 4, 5, 6, 7] 8 [] 0 (by kernel_rfl) ?_; intro ns72 ts72 Gs72 s72; refine ko 1 (hLn (nm2 + 1) ys' (by (run_tac om))) (by kernel_rfl) ?_ ?_)
              · trivial
              intro r H' h
              rw [hyl] at h
              (apply Rets.elim h; intro kw aw J)
              intro nw tw Gw s
              (run_tac gR 11 7)
              (refine gp [6, 0, 2, 3, 4, 5, 7] 8 [] 0 (by kernel_rfl) ?_; intro ns75 ts75 Gs75 s75; refine ko 1 (hAp pD (ds.map .ref) (.ref (nw + 281)) (by simp only [List.length_cons, List.length_map] at hdl ⊢; (run_tac om))) (by kernel_rfl) ?_ ?_)
              · trivial
              intro r H' h
              (apply Rets.elim h; intro kv av J)
              intro nv tv Gv s
              (run_tac gR 24 4363153856)
              (refine gp [5, 0, 3, 4, 2, 6, 1] 7 [] 0 (by kernel_rfl) ?_; intro ns78 ts78 Gs78 s78)
              refine gview 1 ⟨.t "list", none, .seqV ((ds ++ [nw + 281]).map .ref)⟩ ⟨.t "list", none, .seqV (ds.map .ref ++ [.ref (nw + 281)])⟩ (by kernel_rfl) (by rw [List.map_append]; rfl) fun jv J => ?_
              intro s
              obtain ⟨o, ho⟩ : ∃ o : Obj, o = { cls := .type "tuple", data := .seq #[.str ⟨⟨tok ++ [10]⟩⟩ (strTok (seqAt (‹Cf› : Cf).cells 6) 0), .int (1 + (cntC cv (place + 1) : Int)) (intTok (seqAt (‹Cf› : Cf).cells 6) 1)] (epAt (‹Cf› : Cf).cells 6) } := ⟨_, rfl⟩
              refine gtail 6 (nw + 281, o) T (by rw [ho]; kernel_rfl) fun nr tr Gr => ?_
              intro s
              (refine gp [0, 1, 2, 3, 4, 5] 6 [] 0 (by kernel_rfl) ?_; intro ns79 ts79 Gs79 s79; refine kaw (T := ((T ++ [(nw + 281, o)]))) (GT := GT) 6 ((hn ⟨pW, pM, pC, pD, pFr, pPc⟩ pI (idx + 1) kk cs0 ms cs cv v m (ds ++ [nw + 281]) ⟨ent ++ [(tok ++ [10], 1 + (cntC cv (place + 1) : Int))], [], (place + 1) + 1⟩ [(.s sSign, .s ⟨#[32]⟩)] hrest hcv hcl hmv hvm hml (by simp only [List.length_cons, List.length_append, List.length_nil] at hdl ⊢; (run_tac om)) (by simp only [List.length_cons, List.length_nil] at htl ⊢; (run_tac om)) (.inr ⟨_, rfl⟩))) (by kernel_rfl) ?_ ?_)
              · exact (hO.sub fun _ h => List.mem_append_left _ h).snoc (List.mem_append_right _ (List.mem_singleton.mpr rfl)) ⟨_, _, _, ho⟩
              rintro r H' ⟨ds', loc', N, X, hX, hl', h2, h3⟩
              rw [List.foldl_cons, stepD_b (if_neg (by rw [hb]; exact Bool.noConfusion)) hp (of_decide_eq_true hm0)]
              exact ⟨ds', loc', _, X, hX.trans (List.append_assoc ..), locP_cons hl', h2, h3⟩
            · (run_tac gR 7 8322)
              (refine gp [0, 2, 3, 4, 5, 6, 7] 8 [] 0 (by kernel_rfl) ?_; intro ns82 ts82 Gs82 s82; refine ko 1 (hLn (nm2 + 1) ys' (by (run_tac om))) (by kernel_rfl) ?_ ?_)
              · trivial
              intro r H' h
              rw [hyl] at h
              (apply Rets.elim h; intro kw aw J)
              intro nw tw Gw s
              (run_tac gR 11 7)
              (refine gp [6, 0, 2, 3, 4, 5, 7] 8 [] 0 (by kernel_rfl) ?_; intro ns85 ts85 Gs85 s85; refine ko 1 (hAp pD (ds.map .ref) (.ref (nw + 281)) (by simp only [List.length_cons, List.length_map] at hdl ⊢; (run_tac om))) (by kernel_rfl) ?_ ?_)
              · trivial
              intro r H' h
              (apply Rets.elim h; intro kv av J)
              intro nv tv Gv s
              (run_tac gR 24 4363153856)
              (refine gp [5, 0, 3, 4, 2, 6, 1] 7 [] 0 (by kernel_rfl) ?_; intro ns88 ts88 Gs88 s88)
              refine gview 1 ⟨.t "list", none, .seqV ((ds ++ [nw + 281]).map .ref)⟩ ⟨.t "list", none, .seqV (ds.map .ref ++ [.ref (nw + 281)])⟩ (by kernel_rfl) (by rw [List.map_append]; rfl) fun jv J => ?_
              intro s
              obtain ⟨o, ho⟩ : ∃ o : Obj, o = { cls := .type "tuple", data := .seq #[.str ⟨⟨tok ++ [10]⟩⟩ (strTok (seqAt (‹Cf› : Cf).cells 6) 0), .int (1 + (cntC cv (place + 1) : Int)) (intTok (seqAt (‹Cf› : Cf).cells 6) 1)] (epAt (‹Cf› : Cf).cells 6) } := ⟨_, rfl⟩
              refine gtail 6 (nw + 281, o) T (by rw [ho]; kernel_rfl) fun nr tr Gr => ?_
              intro s
              (refine gp [0, 1, 2, 3, 4, 5] 6 [] 0 (by kernel_rfl) ?_; intro ns89 ts89 Gs89 s89; refine kaw (T := ((T ++ [(nw + 281, o)]))) (GT := GT) 6 ((hn ⟨pW, pM, pC, pD, pFr, pPc⟩ pI (idx + 1) kk cs0 ms cs cv v m (ds ++ [nw + 281]) ⟨ent ++ [(tok ++ [10], 1 + (cntC cv (place + 1) : Int))], [], (place + 1) + 1⟩ [(.s sSign, .s ⟨#[32]⟩)] hrest hcv hcl hmv hvm hml (by simp only [List.length_cons, List.length_append, List.length_nil] at hdl ⊢; (run_tac om)) (by simp only [List.length_cons, List.length_nil] at htl ⊢; (run_tac om)) (.inr ⟨_, rfl⟩))) (by kernel_rfl) ?_ ?_)
              · exact (hO.sub fun _ h => List.mem_append_left _ h).snoc (List.mem_append_right _ (List.mem_singleton.mpr rfl)) ⟨_, _, _, ho⟩
              rintro r H' ⟨ds', loc', N, X, hX, hl', h2, h3⟩
              rw [List.foldl_cons, stepD_b (if_neg (by rw [hb]; exact Bool.noConfusion)) hp (of_decide_eq_true hm0)]
              exact ⟨ds', loc', _, X, hX.trans (List.append_assoc ..), locP_cons hl', h2, h3⟩
          · intro s
            (run_tac gR 7 6)
            (refine gp [0, 1, 2, 3, 4, 5] 6 [] 0 (by kernel_rfl) ?_; intro ns92 ts92 Gs92 s92; refine kb (by kernel_rfl) (fun _ _ => stradd_ok (x := ⟨⟨(tok ++ [10])⟩⟩) (y := ⟨⟨[32]⟩⟩) (by kernel_rfl) (by rw [len_app]; have h9 := sizeLine_eq; simp only [Str.length, List.size_toArray, List.length_cons, List.length_nil, List.length_append] at htl ⊢; (run_tac om))) ?_)
            rintro _ ⟨z, kz3, rfl, hz⟩
            obtain rfl : z = ⟨⟨(tok ++ [10]) ++ [32]⟩⟩ := hz.trans (app_list _ _)
            intro nz3 tz3 Gz3 s
            (run_tac gR 21 5453930880)
            (refine gp [2, 3, 4, 0, 1, 5] 6 [] 0 (by kernel_rfl) ?_; intro ns94 ts94 Gs94 s94; refine kaw (T := (T)) (GT := GT) 6 ((hn ⟨pW, pM, pC, pD, pFr, pPc⟩ pI (idx + 1) kk cs0 ms cs cv v m ds ⟨ent, tok ++ [10] ++ [32], (place + 1) + 1⟩ [(.s sSign, .s ⟨#[32]⟩)] hrest hcv hcl hmv hvm hml (by simp only [List.length_cons] at hdl; (run_tac om)) (by simp only [List.length_cons, List.length_append, List.length_nil] at htl ⊢; (run_tac om)) (.inr ⟨_, rfl⟩))) (by kernel_rfl) ?_ ?_)
            · exact hO
            rintro r H' ⟨ds', loc', N, X, hX, hl', h2, h3⟩
            rw [List.foldl_cons, stepD_c (if_neg (by rw [hb]; exact Bool.noConfusion)) hp (of_decide_eq_false hm0)]
            exact ⟨ds', loc', N, X, hX, locP_cons hl', h2, h3⟩
        · rw [decide_eq_false hp] at h
          (apply Rets.elim h; intro kc0 ac0 J)
          intro nc tc Gc s
          (run_tac gR 8 390)
          (refine gp [0, 1, 2, 3, 4, 5] 6 [] 0 (by kernel_rfl) ?_; intro ns97 ts97 Gs97 s97; refine kb (by kernel_rfl) (fun _ _ => stradd_ok (x := ⟨⟨tok⟩⟩) (y := ⟨⟨[32]⟩⟩) (by kernel_rfl) (by rw [len_app]; have h9 := sizeLine_eq; simp only [Str.length, List.size_toArray, List.length_cons, List.length_nil, List.length_append] at htl ⊢; (run_tac om))) ?_)
          rintro _ ⟨z, kz4, rfl, hz⟩
          obtain rfl : z = ⟨⟨tok ++ [32]⟩⟩ := hz.trans (app_list _ _)
          intro nz4 tz4 Gz4 s
          (run_tac gR 21 5453930880)
          (refine gp [2, 3, 4, 1, 0, 5] 6 [] 0 (by kernel_rfl) ?_; intro ns99 ts99 Gs99 s99; refine kaw (T := (T)) (GT := GT) 6 ((hn ⟨pW, pM, pC, pD, pFr, pPc⟩ pI (idx + 1) kk cs0 ms cs cv v m ds ⟨ent, tok ++ [32], (place + 1) + 1⟩ [(.s sSign, .s ⟨#[32]⟩)] hrest hcv hcl hmv hvm hml (by simp only [List.length_cons] at hdl; (run_tac om)) (by simp only [List.length_cons, List.length_append, List.length_nil] at htl ⊢; (run_tac om)) (.inr ⟨_, rfl⟩))) (by kernel_rfl) ?_ ?_)
          · exact hO
          rintro r H' ⟨ds', loc', N, X, hX, hl', h2, h3⟩
          rw [List.foldl_cons, stepD_a (if_neg (by rw [hb]; exact Bool.noConfusion)) (.inr hp)]
          exact ⟨ds', loc', N, X, hX, locP_cons hl', h2, h3⟩
      · have hc2 : c ≠ 32 := by simpa using hc32
        intro s
        (run_tac gR 8 390)
        (refine gp [0, 1, 2, 3, 4, 5] 6 [] 0 (by kernel_rfl) ?_; intro ns102 ts102 Gs102 s102; refine kb (by kernel_rfl) (fun _ _ => stradd_ok (x := ⟨⟨tok⟩⟩) (y := ⟨⟨[c]⟩⟩) (by kernel_rfl) (by rw [len_app]; have h9 := sizeLine_eq; simp only [Str.length, List.size_toArray, List.length_cons, List.length_nil, List.length_append] at htl ⊢; (run_tac om))) ?_)
        rintro _ ⟨z, kz5, rfl, hz⟩
        obtain rfl : z = ⟨⟨tok ++ [c]⟩⟩ := hz.trans (app_list _ _)
        intro nz5 tz5 Gz5 s
        (run_tac gR 21 4363149696)
        (refine gp [1, 2, 3, 0, 4, 5] 6 [] 0 (by kernel_rfl) ?_; intro ns104 ts104 Gs104 s104; refine kaw (T := (T)) (GT := GT) 6 ((hn ⟨pW, pM, pC, pD, pFr, pPc⟩ pI (idx + 1) kk cs0 ms cs cv v m ds ⟨ent, tok ++ [c], (place + 1) + 1⟩ [(.s sSign, .s ⟨#[c]⟩)] hrest hcv hcl hmv hvm hml (by simp only [List.length_cons] at hdl; (run_tac om)) (by simp only [List.length_cons, List.length_append, List.length_nil] at htl ⊢; (run_tac om)) (.inr ⟨_, rfl⟩))) (by kernel_rfl) ?_ ?_)
        · exact hO
        rintro r H' ⟨ds', loc', N, X, hX, hl', h2, h3⟩
        rw [List.foldl_cons, stepD_a (if_neg (by rw [hb]; exact Bool.noConfusion)) (.inl hc2)]
        exact ⟨ds', loc', N, X, hX, locP_cons hl', h2, h3⟩)
  run_tac sq
set_option maxHeartbeats 0 in
theorem du_z : DuIOk (cx w b1 b2 h₀ d os hk hN) (W2 w b1 b2).params [] := by
  run_tac sq0
  intro I pI idx kk cs0 ms cs cv v m ds S loc hcs hcv hcl hmv hvm hml hdl htl hloc
  refine sp_of fun pp T GT J hO n t G => ?_
  intro s
  obtain ⟨pW, pM, pC, pD, pFr, pPc⟩ := I
  obtain ⟨ent, tok, place⟩ := S
  have hno := end_of hcs
  rcases hloc with rfl | ⟨y, rfl⟩ <;> (
    (run_tac gR 7 266305)
    (run_tac Mine.gxT 0)
    intro y' he
    obtain rfl : y' = none := by rw [← he]; simpa using hno
    intro s
    (run_tac gR 10 4161)
    (refine gp [3, 4, 5, 6, 7] 8 [] 0 (by kernel_rfl) ?_; intro ns213 ts213 Gs213 s213)
    refine ke (by kernel_rfl) ?_
    exact ⟨ds, _, [], T, (List.append_nil T).symm, .inl ⟨rfl, rfl⟩, hO, flows 5 (by kernel_rfl)⟩)
  run_tac sq
set_option maxHeartbeats 0 in
theorem do_s (hRn : RNu (cx w b1 b2 h₀ d os hk hN)) (hLg : LGl (cx w b1 b2 h₀ d os hk hN)) (hAp : AppL (cx w b1 b2 h₀ d os hk hN)) (hLn : LLn (cx w b1 b2 h₀ d os hk hN)) (hCs : CsOk (cx w b1 b2 h₀ d os hk hN) (ce2 (W2 w b1 b2).params)) (hI : ∀ l, DuIOk (cx w b1 b2 h₀ d os hk hN) (W2 w b1 b2).params l) (x : List Nat × Int) (rest : List (List Nat × Int)) (hn : DuOOk (cx w b1 b2 h₀ d os hk hN) (W2 w b1 b2).params rest) : DuOOk (cx w b1 b2 h₀ d os hk hN) (W2 w b1 b2).params (x :: rest) := by
  run_tac sq0
  intro I pI kk ws ms cs cv wl ds E loc hdr hws hms hok hwl hcv hcl hdl hloc
  refine sp_of fun pp T GT J hO n t G => ?_
  intro s
  obtain ⟨pW, pM, pC, pD, pFr, pPc⟩ := I
  obtain ⟨ent, place⟩ := E
  obtain ⟨word, m⟩ := x
  have hx : wl[kk]? = some (word, m) := by have := congrArg (·[0]?) hdr; simpa using this
  have hdr' : wl.drop (kk + 1) = rest := by have := congrArg (·.drop 1) hdr; simpa using this
  obtain ⟨hw4, hwn, h128⟩ := hok _ (List.mem_of_getElem? hx)
  have hw4 : word.length ≤ 4 := hw4
  have hwn : word ≠ [] := hwn
  have h128 : ∀ c ∈ word, c < 128 := h128
  obtain ⟨vw, hvw, hvw2⟩ : ∃ v, ws[kk]? = some v ∧ vv v = VV.s ⟨⟨word⟩⟩ := by
    have := congrArg (·[kk]?) hws
    rw [List.getElem?_map, List.getElem?_map, hx] at this
    cases h : ws[kk]? with
    | none => rw [h] at this; cases this
    | some v => rw [h] at this; exact ⟨v, rfl, Option.some.inj this⟩
  obtain ⟨vm, hvm, hvm2⟩ : ∃ v, ms[kk]? = some v ∧ vv v = VV.i m := by
    have := congrArg (·[kk]?) hms
    rw [List.getElem?_map, List.getElem?_map, hx] at this
    cases h : ms[kk]? with
    | none => rw [h] at this; cases this
    | some v => rw [h] at this; exact ⟨v, rfl, Option.some.inj this⟩
  have hwsl : ws.length = wl.length := by have := congrArg List.length hws; simpa using this
  have hmsl : ms.length = wl.length := by have := congrArg List.length hms; simpa using this
  rcases hloc with rfl | ⟨k0, t0, s0, rfl⟩
  · (
    (run_tac gR 4 65)
    (refine gp [0, 1, 2, 3, 4, 5, 6] 7 [] 0 (by kernel_rfl) ?_; intro ns2 ts2 Gs2 s2; refine ko 1 (hRn pI (kk : Int) ((kk + 1 : Nat) : Int) rest.length rfl) (by kernel_rfl) ?_ ?_)
    · trivial
    intro r H' h
    (apply Rets.elim h; intro k9 a9 J)
    intro n1 t1 G1 s
    (run_tac gR 28 299832805966720561600)
    (refine gp [3, 0, 1, 2, 4, 5, 6] 7 [] 0 (by kernel_rfl) ?_; intro ns5 ts5 Gs5 s5; refine ko 1 (hLg pM kk (kk : Int) (argTok 1 (codeOf (‹Cf› : Cf).t)) ms vm rfl hvm (by (run_tac om))) (by kernel_rfl) ?_ ?_)
    · trivial
    intro r H' h
    rw [hvm2] at h
    (apply Rets.elim h; intro k8 a8 J)
    intro n2 t2 G2 s
    (run_tac gR 6 1)
    refine gs (decide (0 < m)) (by kernel_rfl) (fun hm0 => ?_) (fun hm0 => ?_)
    · intro s
      (run_tac gR 25 1715657017934084)
      (refine gp [5, 0, 1, 2, 3, 4, 6] 7 [] 0 (by kernel_rfl) ?_; intro ns9 ts9 Gs9 s9; refine ko 1 (hLg pW kk (kk : Int) (argTok 1 (codeOf (‹Cf› : Cf).t)) ws vw rfl hvw (by (run_tac om))) (by kernel_rfl) ?_ ?_)
      · trivial
      intro r H' h
      rw [hvw2] at h
      (apply Rets.elim h; intro k7 a7 J)
      intro n3 t3 G3 s
      (run_tac gR 7 1)
      refine gview 0 ⟨.t "str_ascii_iterator", none, .fields [.s ⟨⟨word⟩⟩, .i ((0 : Nat) : Int)]⟩ ⟨.t (if (true && (⟨⟨word⟩⟩ : Str).cps.all (· < 128)) then "str_ascii_iterator" else "str_iterator"), none, .fields [.s ⟨⟨word⟩⟩, .i 0]⟩ (by kernel_rfl) (by rw [ascii_all h128]; rfl) fun jv J => ?_
      intro s
      (run_tac gR 1 1)
      (refine gp [0, 4, 5, 2, 6, 7, 1, 3] 8 [] 0 (by kernel_rfl) ?_; intro ns13 ts13 Gs13 s13)
      (refine gp [0, 1, 2, 3, 4, 5, 6, 7] 8 [] 0 (by kernel_rfl) ?_; intro ns14 ts14 Gs14 s14; refine kc 6 ((hI word) ⟨pW, pM, pC, pD, pFr, pPc⟩ n3 0 kk word ms cs cv vm m ds ⟨ent, [], (place + 1)⟩ [] rfl hcv hcl hvm hvm2 (by (run_tac om)) (by simp only [List.length_cons] at hdl; (run_tac om)) (by simp only [List.length_nil]; (run_tac om)) (.inl rfl)) (by kernel_rfl) ?_ ?_)
      · have e : dropC (dropC (‹Cf› : Cf).cells 6) 2 = T := by kernel_rfl
        exact hO.sub fun _ hq => mem_dropC (e ▸ hq)
      rintro r H' ⟨ds1, loc1, N, X, hX, ⟨_, hl1⟩ | ⟨vs, rfl⟩, hO1, h⟩
      · exact absurd hl1 hwn
      rw [hX] at h hO1
      have ha9 : allNot (takeC (dropC (‹Cf› : Cf).cells 6 ++ N) 2) = true := by kernel_rfl
      have ha8 : dropC (dropC (‹Cf› : Cf).cells 6 ++ N) 2 = T ++ N := by kernel_rfl
      have hO2 := objs_down 2 hO1 ha9 ha8
      have hfl := foldD_len cv m word ⟨ent, [], (place + 1)⟩
      obtain ⟨⟨en2, tok, p2⟩, hS⟩ : ∃ S, S = word.foldl (stepD cv m) ⟨ent, [], (place + 1)⟩ := ⟨_, rfl⟩
      rw [← hS] at hO2 h hfl
      have hfl2 : en2.length ≤ ent.length + word.length := hfl
      have hdl2 : ds1.length = en2.length := hO2.lens
      have hdl3 : ds.length = ent.length := hO.lens
      (apply Flows.elim h; intro J)
      intro n4 t4 G4 s
      (run_tac gR 8 69)
      refine gs (!((⟨⟨tok⟩⟩ : Str).cps.toList == ([] : List Nat))) (by kernel_rfl) (fun hq => ?_) (fun hq => ?_)
      · have hqq : tok ≠ [] := by rintro rfl; simp at hq
        intro s
        (run_tac gR 31 321199392962423447359557)
        (refine gp [2, 1, 0, 6, 4, 3, 5, 7, 8, 9] 10 [] 0 (by kernel_rfl) ?_; intro ns18 ts18 Gs18 s18; refine kc 5 (hCs n4 (n4 + 1) (n4 + 2) pFr pPc pC cs cv p2 hcv hcl) (by kernel_rfl) ?_ ?_)
        · trivial
        rintro r H' ⟨ys', loc', hyl, hlc, h⟩
        have hyb : ys'.length ≤ 900 := by rw [hyl]; exact Nat.le_trans (List.length_filter_le _ _) hcl
        (apply Flows.elim h; intro J)
        intro nq tq Gq s
        rcases hlc with rfl | ⟨vc, rfl⟩
        · (run_tac gR 3 2)
          (refine gp [0, 2, 3, 4, 5, 6, 7, 8] 9 [] 0 (by kernel_rfl) ?_; intro ns21 ts21 Gs21 s21; refine ko 1 (hLn (n4 + 1) ys' (by (run_tac om))) (by kernel_rfl) ?_ ?_)
          · trivial
          intro r H' h
          rw [hyl] at h
          (apply Rets.elim h; intro kw aw J)
          intro nw tw Gw s
          (run_tac gR 11 5)
          (refine gp [4, 0, 2, 3, 5, 6, 7, 8] 9 [] 0 (by kernel_rfl) ?_; intro ns24 ts24 Gs24 s24; refine ko 1 (hAp pD (ds1.map .ref) (.ref (nw + 281)) (by simp only [List.length_cons, List.length_map] at hdl ⊢; (run_tac om))) (by kernel_rfl) ?_ ?_)
          · trivial
          intro r H' h
          (apply Rets.elim h; intro kv av J)
          intro nv tv Gv s
          (run_tac gR 13 5453926790)
          (refine gp [4, 0, 1, 2, 3, 5, 6, 7] 8 [] 0 (by kernel_rfl) ?_; intro ns27 ts27 Gs27 s27; refine ko 1 (hLg pM kk (kk : Int) (argTok 1 (codeOf (‹Cf› : Cf).t)) ms vm rfl hvm (by (run_tac om))) (by kernel_rfl) ?_ ?_)
          · trivial
          intro r H' h
          rw [hvm2] at h
          (apply Rets.elim h; intro km7 am7 J)
          intro nm7 tm7 Gm7 s
          (run_tac gR 6 1)
          refine gs (decide (0 < m)) (by kernel_rfl) (fun hm1 => ?_) (fun hm1 => ?_)
          · intro s
            (run_tac gR 27 5453926725)
            (refine gp [7, 1, 4, 0, 3, 6, 5, 2] 8 [] 0 (by kernel_rfl) ?_; intro ns31 ts31 Gs31 s31)
            refine gview 1 ⟨.t "list", none, .seqV ((ds1 ++ [nw + 281]).map .ref)⟩ ⟨.t "list", none, .seqV (ds1.map .ref ++ [.ref (nw + 281)])⟩ (by kernel_rfl) (by rw [List.map_append]; rfl) fun jv J => ?_
            intro s
            obtain ⟨o, ho⟩ : ∃ o : Obj, o = { cls := .type "tuple", data := .seq #[.str ⟨⟨tok⟩⟩ (strTok (seqAt (‹Cf› : Cf).cells 7) 0), .int (1 + (cntC cv p2 : Int)) (intTok (seqAt (‹Cf› : Cf).cells 7) 1)] (epAt (‹Cf› : Cf).cells 7) } := ⟨_, rfl⟩
            refine gtail 7 (nw + 281, o) (T ++ N) (by rw [ho]; kernel_rfl) fun nr tr Gr => ?_
            intro s
            (refine gp [0, 1, 2, 3, 4, 5, 6] 7 [] 0 (by kernel_rfl) ?_; intro ns32 ts32 Gs32 s32; refine kaw (T := ((T ++ N ++ [(nw + 281, o)]))) (GT := GT) 7 ((hn ⟨pW, pM, pC, pD, pFr, pPc⟩ pI (kk + 1) ws ms cs cv wl (ds1 ++ [nw + 281]) (en2 ++ [(tok, 1 + (cntC cv p2 : Int))], p2 + 1 + 1) [(.s sK, .i (kk : Nat)), (.s sToken, .s ⟨⟨tok⟩⟩), (.s sSign, .s vs)] hdr' hws hms hok hwl hcv hcl (by simp only [List.length_cons, List.length_append, List.length_nil] at hdl ⊢; (run_tac om)) (.inr ⟨_, _, _, rfl⟩))) (by kernel_rfl) ?_ ?_)
            · exact (hO2.sub fun _ h => List.mem_append_left _ h).snoc (List.mem_append_right _ (List.mem_singleton.mpr rfl)) ⟨_, _, _, ho⟩
            rintro r H' ⟨ds9, loc9, N9, X9, hX9, hl9, h29, h39⟩
            have hwd : wordD cv word m (ent, place) = (en2 ++ [(tok, 1 + (cntC cv p2 : Int))], p2 + 1 + 1) := by
              rw [wordD_eq (if_pos (of_decide_eq_true hm0)) hS, if_neg hqq, if_pos (of_decide_eq_true hm0)]
            rw [show dueRun cv ((word, m) :: rest) (ent, place) = dueRun cv rest (wordD cv word m (ent, place)) from rfl, hwd]
            exact ⟨ds9, loc9, N ++ ([(nw + 281, o)] ++ N9), X9, by rw [hX9]; simp only [List.append_assoc], hl9, h29, h39⟩
          · exact absurd (hm0.symm.trans hm1) (by decide)
        · (run_tac gR 7 8322)
          (refine gp [0, 2, 3, 4, 5, 6, 7, 8] 9 [] 0 (by kernel_rfl) ?_; intro ns35 ts35 Gs35 s35; refine ko 1 (hLn (n4 + 1) ys' (by (run_tac om))) (by kernel_rfl) ?_ ?_)
          · trivial
          intro r H' h
          rw [hyl] at h
          (apply Rets.elim h; intro kw aw J)
          intro nw tw Gw s
          (run_tac gR 11 5)
          (refine gp [4, 0, 2, 3, 5, 6, 7, 8] 9 [] 0 (by kernel_rfl) ?_; intro ns38 ts38 Gs38 s38; refine ko 1 (hAp pD (ds1.map .ref) (.ref (nw + 281)) (by simp only [List.length_cons, List.length_map] at hdl ⊢; (run_tac om))) (by kernel_rfl) ?_ ?_)
          · trivial
          intro r H' h
          (apply Rets.elim h; intro kv av J)
          intro nv tv Gv s
          (run_tac gR 13 5453926790)
          (refine gp [4, 0, 1, 2, 3, 5, 6, 7] 8 [] 0 (by kernel_rfl) ?_; intro ns41 ts41 Gs41 s41; refine ko 1 (hLg pM kk (kk : Int) (argTok 1 (codeOf (‹Cf› : Cf).t)) ms vm rfl hvm (by (run_tac om))) (by kernel_rfl) ?_ ?_)
          · trivial
          intro r H' h
          rw [hvm2] at h
          (apply Rets.elim h; intro km7 am7 J)
          intro nm7 tm7 Gm7 s
          (run_tac gR 6 1)
          refine gs (decide (0 < m)) (by kernel_rfl) (fun hm1 => ?_) (fun hm1 => ?_)
          · intro s
            (run_tac gR 27 5453926725)
            (refine gp [7, 1, 4, 0, 3, 6, 5, 2] 8 [] 0 (by kernel_rfl) ?_; intro ns45 ts45 Gs45 s45)
            refine gview 1 ⟨.t "list", none, .seqV ((ds1 ++ [nw + 281]).map .ref)⟩ ⟨.t "list", none, .seqV (ds1.map .ref ++ [.ref (nw + 281)])⟩ (by kernel_rfl) (by rw [List.map_append]; rfl) fun jv J => ?_
            intro s
            obtain ⟨o, ho⟩ : ∃ o : Obj, o = { cls := .type "tuple", data := .seq #[.str ⟨⟨tok⟩⟩ (strTok (seqAt (‹Cf› : Cf).cells 7) 0), .int (1 + (cntC cv p2 : Int)) (intTok (seqAt (‹Cf› : Cf).cells 7) 1)] (epAt (‹Cf› : Cf).cells 7) } := ⟨_, rfl⟩
            refine gtail 7 (nw + 281, o) (T ++ N) (by rw [ho]; kernel_rfl) fun nr tr Gr => ?_
            intro s
            (refine gp [0, 1, 2, 3, 4, 5, 6] 7 [] 0 (by kernel_rfl) ?_; intro ns46 ts46 Gs46 s46; refine kaw (T := ((T ++ N ++ [(nw + 281, o)]))) (GT := GT) 7 ((hn ⟨pW, pM, pC, pD, pFr, pPc⟩ pI (kk + 1) ws ms cs cv wl (ds1 ++ [nw + 281]) (en2 ++ [(tok, 1 + (cntC cv p2 : Int))], p2 + 1 + 1) [(.s sK, .i (kk : Nat)), (.s sToken, .s ⟨⟨tok⟩⟩), (.s sSign, .s vs)] hdr' hws hms hok hwl hcv hcl (by simp only [List.length_cons, List.length_append, List.length_nil] at hdl ⊢; (run_tac om)) (.inr ⟨_, _, _, rfl⟩))) (by kernel_rfl) ?_ ?_)
            · exact (hO2.sub fun _ h => List.mem_append_left _ h).snoc (List.mem_append_right _ (List.mem_singleton.mpr rfl)) ⟨_, _, _, ho⟩
            rintro r H' ⟨ds9, loc9, N9, X9, hX9, hl9, h29, h39⟩
            have hwd : wordD cv word m (ent, place) = (en2 ++ [(tok, 1 + (cntC cv p2 : Int))], p2 + 1 + 1) := by
              rw [wordD_eq (if_pos (of_decide_eq_true hm0)) hS, if_neg hqq, if_pos (of_decide_eq_true hm0)]
            rw [show dueRun cv ((word, m) :: rest) (ent, place) = dueRun cv rest (wordD cv word m (ent, place)) from rfl, hwd]
            exact ⟨ds9, loc9, N ++ ([(nw + 281, o)] ++ N9), X9, by rw [hX9]; simp only [List.append_assoc], hl9, h29, h39⟩
          · exact absurd (hm0.symm.trans hm1) (by decide)
      · have hqq : tok = [] := by simpa using hq
        intro s
        (run_tac gR 12 3272356165)
        (refine gp [2, 0, 1, 3, 4, 5, 6] 7 [] 0 (by kernel_rfl) ?_; intro ns49 ts49 Gs49 s49; refine ko 1 (hLg pM kk (kk : Int) (argTok 1 (codeOf (‹Cf› : Cf).t)) ms vm rfl hvm (by (run_tac om))) (by kernel_rfl) ?_ ?_)
        · trivial
        intro r H' h
        rw [hvm2] at h
        (apply Rets.elim h; intro km8 am8 J)
        intro nm8 tm8 Gm8 s
        (run_tac gR 6 1)
        refine gs (decide (0 < m)) (by kernel_rfl) (fun hm1 => ?_) (fun hm1 => ?_)
        · intro s
          (run_tac gR 27 3272356035)
          (refine gp [6, 1, 2, 0, 3, 5, 4] 7 [] 0 (by kernel_rfl) ?_; intro ns53 ts53 Gs53 s53)
          (refine gp [0, 1, 2, 3, 4, 5, 6] 7 [] 0 (by kernel_rfl) ?_; intro ns54 ts54 Gs54 s54; refine kaw (T := ((T ++ N))) (GT := GT) 7 ((hn ⟨pW, pM, pC, pD, pFr, pPc⟩ pI (kk + 1) ws ms cs cv wl (ds1) (en2, p2 + 1 + 1) [(.s sK, .i (kk : Nat)), (.s sToken, .s ⟨⟨tok⟩⟩), (.s sSign, .s vs)] hdr' hws hms hok hwl hcv hcl (by simp only [List.length_cons, List.length_append, List.length_nil] at hdl ⊢; (run_tac om)) (.inr ⟨_, _, _, rfl⟩))) (by kernel_rfl) ?_ ?_)
          · exact hO2
          rintro r H' ⟨ds9, loc9, N9, X9, hX9, hl9, h29, h39⟩
          have hwd : wordD cv word m (ent, place) = (en2, p2 + 1 + 1) := by
            rw [wordD_eq (if_pos (of_decide_eq_true hm0)) hS, if_pos hqq, if_pos (of_decide_eq_true hm0)]
          rw [show dueRun cv ((word, m) :: rest) (ent, place) = dueRun cv rest (wordD cv word m (ent, place)) from rfl, hwd]
          exact ⟨ds9, loc9, N ++ N9, X9, by rw [hX9]; simp only [List.append_assoc], hl9, h29, h39⟩
        · exact absurd (hm0.symm.trans hm1) (by decide)
    · intro s
      (run_tac gR 12 6544712135)
      (refine gp [5, 0, 1, 2, 3, 4, 6] 7 [] 0 (by kernel_rfl) ?_; intro ns57 ts57 Gs57 s57; refine ko 1 (hLg pW kk (kk : Int) (argTok 1 (codeOf (‹Cf› : Cf).t)) ws vw rfl hvw (by (run_tac om))) (by kernel_rfl) ?_ ?_)
      · trivial
      intro r H' h
      rw [hvw2] at h
      (apply Rets.elim h; intro k7 a7 J)
      intro n3 t3 G3 s
      (run_tac gR 7 1)
      refine gview 0 ⟨.t "str_ascii_iterator", none, .fields [.s ⟨⟨word⟩⟩, .i ((0 : Nat) : Int)]⟩ ⟨.t (if (true && (⟨⟨word⟩⟩ : Str).cps.all (· < 128)) then "str_ascii_iterator" else "str_iterator"), none, .fields [.s ⟨⟨word⟩⟩, .i 0]⟩ (by kernel_rfl) (by rw [ascii_all h128]; rfl) fun jv J => ?_
      intro s
      (run_tac gR 1 1)
      (refine gp [0, 4, 5, 2, 6, 7, 1, 3] 8 [] 0 (by kernel_rfl) ?_; intro ns61 ts61 Gs61 s61)
      (refine gp [0, 1, 2, 3, 4, 5, 6, 7] 8 [] 0 (by kernel_rfl) ?_; intro ns62 ts62 Gs62 s62; refine kc 6 ((hI word) ⟨pW, pM, pC, pD, pFr, pPc⟩ n3 0 kk word ms cs cv vm m ds ⟨ent, [], place⟩ [] rfl hcv hcl hvm hvm2 (by (run_tac om)) (by simp only [List.length_cons] at hdl; (run_tac om)) (by simp only [List.length_nil]; (run_tac om)) (.inl rfl)) (by kernel_rfl) ?_ ?_)
      · have e : dropC (dropC (‹Cf› : Cf).cells 6) 2 = T := by kernel_rfl
        exact hO.sub fun _ hq => mem_dropC (e ▸ hq)
      rintro r H' ⟨ds1, loc1, N, X, hX, ⟨_, hl1⟩ | ⟨vs, rfl⟩, hO1, h⟩
      · exact absurd hl1 hwn
      rw [hX] at h hO1
      have ha9 : allNot (takeC (dropC (‹Cf› : Cf).cells 6 ++ N) 2) = true := by kernel_rfl
      have ha8 : dropC (dropC (‹Cf› : Cf).cells 6 ++ N) 2 = T ++ N := by kernel_rfl
      have hO2 := objs_down 2 hO1 ha9 ha8
      have hfl := foldD_len cv m word ⟨ent, [], place⟩
      obtain ⟨⟨en2, tok, p2⟩, hS⟩ : ∃ S, S = word.foldl (stepD cv m) ⟨ent, [], place⟩ := ⟨_, rfl⟩
      rw [← hS] at hO2 h hfl
      have hfl2 : en2.length ≤ ent.length + word.length := hfl
      have hdl2 : ds1.length = en2.length := hO2.lens
      have hdl3 : ds.length = ent.length := hO.lens
      (apply Flows.elim h; intro J)
      intro n4 t4 G4 s
      (run_tac gR 8 69)
      refine gs (!((⟨⟨tok⟩⟩ : Str).cps.toList == ([] : List Nat))) (by kernel_rfl) (fun hq => ?_) (fun hq => ?_)
      · have hqq : tok ≠ [] := by rintro rfl; simp at hq
        intro s
        (run_tac gR 31 321199392962423447359557)
        (refine gp [2, 1, 0, 6, 4, 3, 5, 7, 8, 9] 10 [] 0 (by kernel_rfl) ?_; intro ns66 ts66 Gs66 s66; refine kc 5 (hCs n4 (n4 + 1) (n4 + 2) pFr pPc pC cs cv p2 hcv hcl) (by kernel_rfl) ?_ ?_)
        · trivial
        rintro r H' ⟨ys', loc', hyl, hlc, h⟩
        have hyb : ys'.length ≤ 900 := by rw [hyl]; exact Nat.le_trans (List.length_filter_le _ _) hcl
        (apply Flows.elim h; intro J)
        intro nq tq Gq s
        rcases hlc with rfl | ⟨vc, rfl⟩
        · (run_tac gR 3 2)
          (refine gp [0, 2, 3, 4, 5, 6, 7, 8] 9 [] 0 (by kernel_rfl) ?_; intro ns69 ts69 Gs69 s69; refine ko 1 (hLn (n4 + 1) ys' (by (run_tac om))) (by kernel_rfl) ?_ ?_)
          · trivial
          intro r H' h
          rw [hyl] at h
          (apply Rets.elim h; intro kw aw J)
          intro nw tw Gw s
          (run_tac gR 11 5)
          (refine gp [4, 0, 2, 3, 5, 6, 7, 8] 9 [] 0 (by kernel_rfl) ?_; intro ns72 ts72 Gs72 s72; refine ko 1 (hAp pD (ds1.map .ref) (.ref (nw + 281)) (by simp only [List.length_cons, List.length_map] at hdl ⊢; (run_tac om))) (by kernel_rfl) ?_ ?_)
          · trivial
          intro r H' h
          (apply Rets.elim h; intro kv av J)
          intro nv tv Gv s
          (run_tac gR 13 5453926790)
          (refine gp [4, 0, 1, 2, 3, 5, 6, 7] 8 [] 0 (by kernel_rfl) ?_; intro ns75 ts75 Gs75 s75; refine ko 1 (hLg pM kk (kk : Int) (argTok 1 (codeOf (‹Cf› : Cf).t)) ms vm rfl hvm (by (run_tac om))) (by kernel_rfl) ?_ ?_)
          · trivial
          intro r H' h
          rw [hvm2] at h
          (apply Rets.elim h; intro km7 am7 J)
          intro nm7 tm7 Gm7 s
          (run_tac gR 6 1)
          refine gs (decide (0 < m)) (by kernel_rfl) (fun hm1 => ?_) (fun hm1 => ?_)
          · exact absurd (hm0.symm.trans hm1) (by decide)
          · intro s
            (run_tac gR 14 20805)
            (refine gp [7, 1, 4, 0, 3, 6, 5, 2] 8 [] 0 (by kernel_rfl) ?_; intro ns79 ts79 Gs79 s79)
            refine gview 1 ⟨.t "list", none, .seqV ((ds1 ++ [nw + 281]).map .ref)⟩ ⟨.t "list", none, .seqV (ds1.map .ref ++ [.ref (nw + 281)])⟩ (by kernel_rfl) (by rw [List.map_append]; rfl) fun jv J => ?_
            intro s
            obtain ⟨o, ho⟩ : ∃ o : Obj, o = { cls := .type "tuple", data := .seq #[.str ⟨⟨tok⟩⟩ (strTok (seqAt (‹Cf› : Cf).cells 7) 0), .int (1 + (cntC cv p2 : Int)) (intTok (seqAt (‹Cf› : Cf).cells 7) 1)] (epAt (‹Cf› : Cf).cells 7) } := ⟨_, rfl⟩
            refine gtail 7 (nw + 281, o) (T ++ N) (by rw [ho]; kernel_rfl) fun nr tr Gr => ?_
            intro s
            (refine gp [0, 1, 2, 3, 4, 5, 6] 7 [] 0 (by kernel_rfl) ?_; intro ns80 ts80 Gs80 s80; refine kaw (T := ((T ++ N ++ [(nw + 281, o)]))) (GT := GT) 7 ((hn ⟨pW, pM, pC, pD, pFr, pPc⟩ pI (kk + 1) ws ms cs cv wl (ds1 ++ [nw + 281]) (en2 ++ [(tok, 1 + (cntC cv p2 : Int))], p2 + 1) [(.s sK, .i (kk : Nat)), (.s sToken, .s ⟨⟨tok⟩⟩), (.s sSign, .s vs)] hdr' hws hms hok hwl hcv hcl (by simp only [List.length_cons, List.length_append, List.length_nil] at hdl ⊢; (run_tac om)) (.inr ⟨_, _, _, rfl⟩))) (by kernel_rfl) ?_ ?_)
            · exact (hO2.sub fun _ h => List.mem_append_left _ h).snoc (List.mem_append_right _ (List.mem_singleton.mpr rfl)) ⟨_, _, _, ho⟩
            rintro r H' ⟨ds9, loc9, N9, X9, hX9, hl9, h29, h39⟩
            have hwd : wordD cv word m (ent, place) = (en2 ++ [(tok, 1 + (cntC cv p2 : Int))], p2 + 1) := by
              rw [wordD_eq (if_neg (of_decide_eq_false hm0)) hS, if_neg hqq, if_neg (of_decide_eq_false hm0)]
            rw [show dueRun cv ((word, m) :: rest) (ent, place) = dueRun cv rest (wordD cv word m (ent, place)) from rfl, hwd]
            exact ⟨ds9, loc9, N ++ ([(nw + 281, o)] ++ N9), X9, by rw [hX9]; simp only [List.append_assoc], hl9, h29, h39⟩
        · (run_tac gR 7 8322)
          (refine gp [0, 2, 3, 4, 5, 6, 7, 8] 9 [] 0 (by kernel_rfl) ?_; intro ns83 ts83 Gs83 s83; refine ko 1 (hLn (n4 + 1) ys' (by (run_tac om))) (by kernel_rfl) ?_ ?_)
          · trivial
          intro r H' h
          rw [hyl] at h
          (apply Rets.elim h; intro kw aw J)
          intro nw tw Gw s
          (run_tac gR 11 5)
          (refine gp [4, 0, 2, 3, 5, 6, 7, 8] 9 [] 0 (by kernel_rfl) ?_; intro ns86 ts86 Gs86 s86; refine ko 1 (hAp pD (ds1.map .ref) (.ref (nw + 281)) (by simp only [List.length_cons, List.length_map] at hdl ⊢; (run_tac om))) (by kernel_rfl) ?_ ?_)
          · trivial
          intro r H' h
          (apply Rets.elim h; intro kv av J)
          intro nv tv Gv s
          (run_tac gR 13 5453926790)
          (refine gp [4, 0, 1, 2, 3, 5, 6, 7] 8 [] 0 (by kernel_rfl) ?_; intro ns89 ts89 Gs89 s89; refine ko 1 (hLg pM kk (kk : Int) (argTok 1 (codeOf (‹Cf› : Cf).t)) ms vm rfl hvm (by (run_tac om))) (by kernel_rfl) ?_ ?_)
          · trivial
          intro r H' h
          rw [hvm2] at h
          (apply Rets.elim h; intro km7 am7 J)
          intro nm7 tm7 Gm7 s
          (run_tac gR 6 1)
          refine gs (decide (0 < m)) (by kernel_rfl) (fun hm1 => ?_) (fun hm1 => ?_)
          · exact absurd (hm0.symm.trans hm1) (by decide)
          · intro s
            (run_tac gR 14 20805)
            (refine gp [7, 1, 4, 0, 3, 6, 5, 2] 8 [] 0 (by kernel_rfl) ?_; intro ns93 ts93 Gs93 s93)
            refine gview 1 ⟨.t "list", none, .seqV ((ds1 ++ [nw + 281]).map .ref)⟩ ⟨.t "list", none, .seqV (ds1.map .ref ++ [.ref (nw + 281)])⟩ (by kernel_rfl) (by rw [List.map_append]; rfl) fun jv J => ?_
            intro s
            obtain ⟨o, ho⟩ : ∃ o : Obj, o = { cls := .type "tuple", data := .seq #[.str ⟨⟨tok⟩⟩ (strTok (seqAt (‹Cf› : Cf).cells 7) 0), .int (1 + (cntC cv p2 : Int)) (intTok (seqAt (‹Cf› : Cf).cells 7) 1)] (epAt (‹Cf› : Cf).cells 7) } := ⟨_, rfl⟩
            refine gtail 7 (nw + 281, o) (T ++ N) (by rw [ho]; kernel_rfl) fun nr tr Gr => ?_
            intro s
            (refine gp [0, 1, 2, 3, 4, 5, 6] 7 [] 0 (by kernel_rfl) ?_; intro ns94 ts94 Gs94 s94; refine kaw (T := ((T ++ N ++ [(nw + 281, o)]))) (GT := GT) 7 ((hn ⟨pW, pM, pC, pD, pFr, pPc⟩ pI (kk + 1) ws ms cs cv wl (ds1 ++ [nw + 281]) (en2 ++ [(tok, 1 + (cntC cv p2 : Int))], p2 + 1) [(.s sK, .i (kk : Nat)), (.s sToken, .s ⟨⟨tok⟩⟩), (.s sSign, .s vs)] hdr' hws hms hok hwl hcv hcl (by simp only [List.length_cons, List.length_append, List.length_nil] at hdl ⊢; (run_tac om)) (.inr ⟨_, _, _, rfl⟩))) (by kernel_rfl) ?_ ?_)
            · exact (hO2.sub fun _ h => List.mem_append_left _ h).snoc (List.mem_append_right _ (List.mem_singleton.mpr rfl)) ⟨_, _, _, ho⟩
            rintro r H' ⟨ds9, loc9, N9, X9, hX9, hl9, h29, h39⟩
            have hwd : wordD cv word m (ent, place) = (en2 ++ [(tok, 1 + (cntC cv p2 : Int))], p2 + 1) := by
              rw [wordD_eq (if_neg (of_decide_eq_false hm0)) hS, if_neg hqq, if_neg (of_decide_eq_false hm0)]
            rw [show dueRun cv ((word, m) :: rest) (ent, place) = dueRun cv rest (wordD cv word m (ent, place)) from rfl, hwd]
            exact ⟨ds9, loc9, N ++ ([(nw + 281, o)] ++ N9), X9, by rw [hX9]; simp only [List.append_assoc], hl9, h29, h39⟩
      · have hqq : tok = [] := by simpa using hq
        intro s
        (run_tac gR 12 3272356165)
        (refine gp [2, 0, 1, 3, 4, 5, 6] 7 [] 0 (by kernel_rfl) ?_; intro ns97 ts97 Gs97 s97; refine ko 1 (hLg pM kk (kk : Int) (argTok 1 (codeOf (‹Cf› : Cf).t)) ms vm rfl hvm (by (run_tac om))) (by kernel_rfl) ?_ ?_)
        · trivial
        intro r H' h
        rw [hvm2] at h
        (apply Rets.elim h; intro km8 am8 J)
        intro nm8 tm8 Gm8 s
        (run_tac gR 6 1)
        refine gs (decide (0 < m)) (by kernel_rfl) (fun hm1 => ?_) (fun hm1 => ?_)
        · exact absurd (hm0.symm.trans hm1) (by decide)
        · intro s
          (run_tac gR 14 12483)
          (refine gp [6, 1, 2, 0, 3, 5, 4] 7 [] 0 (by kernel_rfl) ?_; intro ns101 ts101 Gs101 s101)
          (refine gp [0, 1, 2, 3, 4, 5, 6] 7 [] 0 (by kernel_rfl) ?_; intro ns102 ts102 Gs102 s102; refine kaw (T := ((T ++ N))) (GT := GT) 7 ((hn ⟨pW, pM, pC, pD, pFr, pPc⟩ pI (kk + 1) ws ms cs cv wl (ds1) (en2, p2 + 1) [(.s sK, .i (kk : Nat)), (.s sToken, .s ⟨⟨tok⟩⟩), (.s sSign, .s vs)] hdr' hws hms hok hwl hcv hcl (by simp only [List.length_cons, List.length_append, List.length_nil] at hdl ⊢; (run_tac om)) (.inr ⟨_, _, _, rfl⟩))) (by kernel_rfl) ?_ ?_)
          · exact hO2
          rintro r H' ⟨ds9, loc9, N9, X9, hX9, hl9, h29, h39⟩
          have hwd : wordD cv word m (ent, place) = (en2, p2 + 1) := by
            rw [wordD_eq (if_neg (of_decide_eq_false hm0)) hS, if_pos hqq, if_neg (of_decide_eq_false hm0)]
          rw [show dueRun cv ((word, m) :: rest) (ent, place) = dueRun cv rest (wordD cv word m (ent, place)) from rfl, hwd]
          exact ⟨ds9, loc9, N ++ N9, X9, by rw [hX9]; simp only [List.append_assoc], hl9, h29, h39⟩)
  · (
    (run_tac gR 4 65)
    (refine gp [0, 1, 2, 3, 4, 5, 6] 7 [] 0 (by kernel_rfl) ?_; intro ns105 ts105 Gs105 s105; refine ko 1 (hRn pI (kk : Int) ((kk + 1 : Nat) : Int) rest.length rfl) (by kernel_rfl) ?_ ?_)
    · trivial
    intro r H' h
    (apply Rets.elim h; intro k9 a9 J)
    intro n1 t1 G1 s
    (run_tac gR 28 299832805966720561600)
    (refine gp [3, 0, 1, 2, 4, 5, 6] 7 [] 0 (by kernel_rfl) ?_; intro ns108 ts108 Gs108 s108; refine ko 1 (hLg pM kk (kk : Int) (argTok 1 (codeOf (‹Cf› : Cf).t)) ms vm rfl hvm (by (run_tac om))) (by kernel_rfl) ?_ ?_)
    · trivial
    intro r H' h
    rw [hvm2] at h
    (apply Rets.elim h; intro k8 a8 J)
    intro n2 t2 G2 s
    (run_tac gR 6 1)
    refine gs (decide (0 < m)) (by kernel_rfl) (fun hm0 => ?_) (fun hm0 => ?_)
    · intro s
      (run_tac gR 25 1715657017934084)
      (refine gp [5, 0, 1, 2, 3, 4, 6] 7 [] 0 (by kernel_rfl) ?_; intro ns112 ts112 Gs112 s112; refine ko 1 (hLg pW kk (kk : Int) (argTok 1 (codeOf (‹Cf› : Cf).t)) ws vw rfl hvw (by (run_tac om))) (by kernel_rfl) ?_ ?_)
      · trivial
      intro r H' h
      rw [hvw2] at h
      (apply Rets.elim h; intro k7 a7 J)
      intro n3 t3 G3 s
      (run_tac gR 7 1)
      refine gview 0 ⟨.t "str_ascii_iterator", none, .fields [.s ⟨⟨word⟩⟩, .i ((0 : Nat) : Int)]⟩ ⟨.t (if (true && (⟨⟨word⟩⟩ : Str).cps.all (· < 128)) then "str_ascii_iterator" else "str_iterator"), none, .fields [.s ⟨⟨word⟩⟩, .i 0]⟩ (by kernel_rfl) (by rw [ascii_all h128]; rfl) fun jv J => ?_
      intro s
      (run_tac gR 1 1)
      (refine gp [0, 4, 5, 2, 6, 7, 1, 3] 8 [] 0 (by kernel_rfl) ?_; intro ns116 ts116 Gs116 s116)
      (refine gp [0, 1, 2, 3, 4, 5, 6, 7] 8 [] 0 (by kernel_rfl) ?_; intro ns117 ts117 Gs117 s117; refine kc 6 ((hI word) ⟨pW, pM, pC, pD, pFr, pPc⟩ n3 0 kk word ms cs cv vm m ds ⟨ent, [], (place + 1)⟩ [(.s sSign, .s s0)] rfl hcv hcl hvm hvm2 (by (run_tac om)) (by simp only [List.length_cons] at hdl; (run_tac om)) (by simp only [List.length_nil]; (run_tac om)) (.inr ⟨_, rfl⟩)) (by kernel_rfl) ?_ ?_)
      · have e : dropC (dropC (‹Cf› : Cf).cells 6) 2 = T := by kernel_rfl
        exact hO.sub fun _ hq => mem_dropC (e ▸ hq)
      rintro r H' ⟨ds1, loc1, N, X, hX, ⟨_, hl1⟩ | ⟨vs, rfl⟩, hO1, h⟩
      · exact absurd hl1 hwn
      rw [hX] at h hO1
      have ha9 : allNot (takeC (dropC (‹Cf› : Cf).cells 6 ++ N) 2) = true := by kernel_rfl
      have ha8 : dropC (dropC (‹Cf› : Cf).cells 6 ++ N) 2 = T ++ N := by kernel_rfl
      have hO2 := objs_down 2 hO1 ha9 ha8
      have hfl := foldD_len cv m word ⟨ent, [], (place + 1)⟩
      obtain ⟨⟨en2, tok, p2⟩, hS⟩ : ∃ S, S = word.foldl (stepD cv m) ⟨ent, [], (place + 1)⟩ := ⟨_, rfl⟩
      rw [← hS] at hO2 h hfl
      have hfl2 : en2.length ≤ ent.length + word.length := hfl
      have hdl2 : ds1.length = en2.length := hO2.lens
      have hdl3 : ds.length = ent.length := hO.lens
      (apply Flows.elim h; intro J)
      intro n4 t4 G4 s
      (run_tac gR 8 69)
      refine gs (!((⟨⟨tok⟩⟩ : Str).cps.toList == ([] : List Nat))) (by kernel_rfl) (fun hq => ?_) (fun hq => ?_)
      · have hqq : tok ≠ [] := by rintro rfl; simp at hq
        intro s
        (run_tac gR 31 321199392962423447359557)
        (refine gp [2, 1, 0, 6, 4, 3, 5, 7, 8, 9] 10 [] 0 (by kernel_rfl) ?_; intro ns121 ts121 Gs121 s121; refine kc 5 (hCs n4 (n4 + 1) (n4 + 2) pFr pPc pC cs cv p2 hcv hcl) (by kernel_rfl) ?_ ?_)
        · trivial
        rintro r H' ⟨ys', loc', hyl, hlc, h⟩
        have hyb : ys'.length ≤ 900 := by rw [hyl]; exact Nat.le_trans (List.length_filter_le _ _) hcl
        (apply Flows.elim h; intro J)
        intro nq tq Gq s
        rcases hlc with rfl | ⟨vc, rfl⟩
        · (run_tac gR 3 2)
          (refine gp [0, 2, 3, 4, 5, 6, 7, 8] 9 [] 0 (by kernel_rfl) ?_; intro ns124 ts124 Gs124 s124; refine ko 1 (hLn (n4 + 1) ys' (by (run_tac om))) (by kernel_rfl) ?_ ?_)
          · trivial
          intro r H' h
          rw [hyl] at h
          (apply Rets.elim h; intro kw aw J)
          intro nw tw Gw s
          (run_tac gR 11 5)
          (refine gp [4, 0, 2, 3, 5, 6, 7, 8] 9 [] 0 (by kernel_rfl) ?_; intro ns127 ts127 Gs127 s127; refine ko 1 (hAp pD (ds1.map .ref) (.ref (nw + 281)) (by simp only [List.length_cons, List.length_map] at hdl ⊢; (run_tac om))) (by kernel_rfl) ?_ ?_)
          · trivial
          intro r H' h
          (apply Rets.elim h; intro kv av J)
          intro nv tv Gv s
          (run_tac gR 13 5453926790)
          (refine gp [4, 0, 1, 2, 3, 5, 6, 7] 8 [] 0 (by kernel_rfl) ?_; intro ns130 ts130 Gs130 s130; refine ko 1 (hLg pM kk (kk : Int) (argTok 1 (codeOf (‹Cf› : Cf).t)) ms vm rfl hvm (by (run_tac om))) (by kernel_rfl) ?_ ?_)
          · trivial
          intro r H' h
          rw [hvm2] at h
          (apply Rets.elim h; intro km7 am7 J)
          intro nm7 tm7 Gm7 s
          (run_tac gR 6 1)
          refine gs (decide (0 < m)) (by kernel_rfl) (fun hm1 => ?_) (fun hm1 => ?_)
          · intro s
            (run_tac gR 27 5453926725)
            (refine gp [7, 1, 4, 0, 3, 6, 5, 2] 8 [] 0 (by kernel_rfl) ?_; intro ns134 ts134 Gs134 s134)
            refine gview 1 ⟨.t "list", none, .seqV ((ds1 ++ [nw + 281]).map .ref)⟩ ⟨.t "list", none, .seqV (ds1.map .ref ++ [.ref (nw + 281)])⟩ (by kernel_rfl) (by rw [List.map_append]; rfl) fun jv J => ?_
            intro s
            obtain ⟨o, ho⟩ : ∃ o : Obj, o = { cls := .type "tuple", data := .seq #[.str ⟨⟨tok⟩⟩ (strTok (seqAt (‹Cf› : Cf).cells 7) 0), .int (1 + (cntC cv p2 : Int)) (intTok (seqAt (‹Cf› : Cf).cells 7) 1)] (epAt (‹Cf› : Cf).cells 7) } := ⟨_, rfl⟩
            refine gtail 7 (nw + 281, o) (T ++ N) (by rw [ho]; kernel_rfl) fun nr tr Gr => ?_
            intro s
            (refine gp [0, 1, 2, 3, 4, 5, 6] 7 [] 0 (by kernel_rfl) ?_; intro ns135 ts135 Gs135 s135; refine kaw (T := ((T ++ N ++ [(nw + 281, o)]))) (GT := GT) 7 ((hn ⟨pW, pM, pC, pD, pFr, pPc⟩ pI (kk + 1) ws ms cs cv wl (ds1 ++ [nw + 281]) (en2 ++ [(tok, 1 + (cntC cv p2 : Int))], p2 + 1 + 1) [(.s sK, .i (kk : Nat)), (.s sToken, .s ⟨⟨tok⟩⟩), (.s sSign, .s vs)] hdr' hws hms hok hwl hcv hcl (by simp only [List.length_cons, List.length_append, List.length_nil] at hdl ⊢; (run_tac om)) (.inr ⟨_, _, _, rfl⟩))) (by kernel_rfl) ?_ ?_)
            · exact (hO2.sub fun _ h => List.mem_append_left _ h).snoc (List.mem_append_right _ (List.mem_singleton.mpr rfl)) ⟨_, _, _, ho⟩
            rintro r H' ⟨ds9, loc9, N9, X9, hX9, hl9, h29, h39⟩
            have hwd : wordD cv word m (ent, place) = (en2 ++ [(tok, 1 + (cntC cv p2 : Int))], p2 + 1 + 1) := by
              rw [wordD_eq (if_pos (of_decide_eq_true hm0)) hS, if_neg hqq, if_pos (of_decide_eq_true hm0)]
            rw [show dueRun cv ((word, m) :: rest) (ent, place) = dueRun cv rest (wordD cv word m (ent, place)) from rfl, hwd]
            exact ⟨ds9, loc9, N ++ ([(nw + 281, o)] ++ N9), X9, by rw [hX9]; simp only [List.append_assoc], hl9, h29, h39⟩
          · exact absurd (hm0.symm.trans hm1) (by decide)
        · (run_tac gR 7 8322)
          (refine gp [0, 2, 3, 4, 5, 6, 7, 8] 9 [] 0 (by kernel_rfl) ?_; intro ns138 ts138 Gs138 s138; refine ko 1 (hLn (n4 + 1) ys' (by (run_tac om))) (by kernel_rfl) ?_ ?_)
          · trivial
          intro r H' h
          rw [hyl] at h
          (apply Rets.elim h; intro kw aw J)
          intro nw tw Gw s
          (run_tac gR 11 5)
          (refine gp [4, 0, 2, 3, 5, 6, 7, 8] 9 [] 0 (by kernel_rfl) ?_; intro ns141 ts141 Gs141 s141; refine ko 1 (hAp pD (ds1.map .ref) (.ref (nw + 281)) (by simp only [List.length_cons, List.length_map] at hdl ⊢; (run_tac om))) (by kernel_rfl) ?_ ?_)
          · trivial
          intro r H' h
          (apply Rets.elim h; intro kv av J)
          intro nv tv Gv s
          (run_tac gR 13 5453926790)
          (refine gp [4, 0, 1, 2, 3, 5, 6, 7] 8 [] 0 (by kernel_rfl) ?_; intro ns144 ts144 Gs144 s144; refine ko 1 (hLg pM kk (kk : Int) (argTok 1 (codeOf (‹Cf› : Cf).t)) ms vm rfl hvm (by (run_tac om))) (by kernel_rfl) ?_ ?_)
          · trivial
          intro r H' h
          rw [hvm2] at h
          (apply Rets.elim h; intro km7 am7 J)
          intro nm7 tm7 Gm7 s
          (run_tac gR 6 1)
          refine gs (decide (0 < m)) (by kernel_rfl) (fun hm1 => ?_) (fun hm1 => ?_)
          · intro s
            (run_tac gR 27 5453926725)
            (refine gp [7, 1, 4, 0, 3, 6, 5, 2] 8 [] 0 (by kernel_rfl) ?_; intro ns148 ts148 Gs148 s148)
            refine gview 1 ⟨.t "list", none, .seqV ((ds1 ++ [nw + 281]).map .ref)⟩ ⟨.t "list", none, .seqV (ds1.map .ref ++ [.ref (nw + 281)])⟩ (by kernel_rfl) (by rw [List.map_append]; rfl) fun jv J => ?_
            intro s
            obtain ⟨o, ho⟩ : ∃ o : Obj, o = { cls := .type "tuple", data := .seq #[.str ⟨⟨tok⟩⟩ (strTok (seqAt (‹Cf› : Cf).cells 7) 0), .int (1 + (cntC cv p2 : Int)) (intTok (seqAt (‹Cf› : Cf).cells 7) 1)] (epAt (‹Cf› : Cf).cells 7) } := ⟨_, rfl⟩
            refine gtail 7 (nw + 281, o) (T ++ N) (by rw [ho]; kernel_rfl) fun nr tr Gr => ?_
            intro s
            (refine gp [0, 1, 2, 3, 4, 5, 6] 7 [] 0 (by kernel_rfl) ?_; intro ns149 ts149 Gs149 s149; refine kaw (T := ((T ++ N ++ [(nw + 281, o)]))) (GT := GT) 7 ((hn ⟨pW, pM, pC, pD, pFr, pPc⟩ pI (kk + 1) ws ms cs cv wl (ds1 ++ [nw + 281]) (en2 ++ [(tok, 1 + (cntC cv p2 : Int))], p2 + 1 + 1) [(.s sK, .i (kk : Nat)), (.s sToken, .s ⟨⟨tok⟩⟩), (.s sSign, .s vs)] hdr' hws hms hok hwl hcv hcl (by simp only [List.length_cons, List.length_append, List.length_nil] at hdl ⊢; (run_tac om)) (.inr ⟨_, _, _, rfl⟩))) (by kernel_rfl) ?_ ?_)
            · exact (hO2.sub fun _ h => List.mem_append_left _ h).snoc (List.mem_append_right _ (List.mem_singleton.mpr rfl)) ⟨_, _, _, ho⟩
            rintro r H' ⟨ds9, loc9, N9, X9, hX9, hl9, h29, h39⟩
            have hwd : wordD cv word m (ent, place) = (en2 ++ [(tok, 1 + (cntC cv p2 : Int))], p2 + 1 + 1) := by
              rw [wordD_eq (if_pos (of_decide_eq_true hm0)) hS, if_neg hqq, if_pos (of_decide_eq_true hm0)]
            rw [show dueRun cv ((word, m) :: rest) (ent, place) = dueRun cv rest (wordD cv word m (ent, place)) from rfl, hwd]
            exact ⟨ds9, loc9, N ++ ([(nw + 281, o)] ++ N9), X9, by rw [hX9]; simp only [List.append_assoc], hl9, h29, h39⟩
          · exact absurd (hm0.symm.trans hm1) (by decide)
      · have hqq : tok = [] := by simpa using hq
        intro s
        (run_tac gR 12 3272356165)
        (refine gp [2, 0, 1, 3, 4, 5, 6] 7 [] 0 (by kernel_rfl) ?_; intro ns152 ts152 Gs152 s152; refine ko 1 (hLg pM kk (kk : Int) (argTok 1 (codeOf (‹Cf› : Cf).t)) ms vm rfl hvm (by (run_tac om))) (by kernel_rfl) ?_ ?_)
        · trivial
        intro r H' h
        rw [hvm2] at h
        (apply Rets.elim h; intro km8 am8 J)
        intro nm8 tm8 Gm8 s
        (run_tac gR 6 1)
        refine gs (decide (0 < m)) (by kernel_rfl) (fun hm1 => ?_) (fun hm1 => ?_)
        · intro s
          (run_tac gR 27 3272356035)
          (refine gp [6, 1, 2, 0, 3, 5, 4] 7 [] 0 (by kernel_rfl) ?_; intro ns156 ts156 Gs156 s156)
          (refine gp [0, 1, 2, 3, 4, 5, 6] 7 [] 0 (by kernel_rfl) ?_; intro ns157 ts157 Gs157 s157; refine kaw (T := ((T ++ N))) (GT := GT) 7 ((hn ⟨pW, pM, pC, pD, pFr, pPc⟩ pI (kk + 1) ws ms cs cv wl (ds1) (en2, p2 + 1 + 1) [(.s sK, .i (kk : Nat)), (.s sToken, .s ⟨⟨tok⟩⟩), (.s sSign, .s vs)] hdr' hws hms hok hwl hcv hcl (by simp only [List.length_cons, List.length_append, List.length_nil] at hdl ⊢; (run_tac om)) (.inr ⟨_, _, _, rfl⟩))) (by kernel_rfl) ?_ ?_)
          · exact hO2
          rintro r H' ⟨ds9, loc9, N9, X9, hX9, hl9, h29, h39⟩
          have hwd : wordD cv word m (ent, place) = (en2, p2 + 1 + 1) := by
            rw [wordD_eq (if_pos (of_decide_eq_true hm0)) hS, if_pos hqq, if_pos (of_decide_eq_true hm0)]
          rw [show dueRun cv ((word, m) :: rest) (ent, place) = dueRun cv rest (wordD cv word m (ent, place)) from rfl, hwd]
          exact ⟨ds9, loc9, N ++ N9, X9, by rw [hX9]; simp only [List.append_assoc], hl9, h29, h39⟩
        · exact absurd (hm0.symm.trans hm1) (by decide)
    · intro s
      (run_tac gR 12 6544712135)
      (refine gp [5, 0, 1, 2, 3, 4, 6] 7 [] 0 (by kernel_rfl) ?_; intro ns160 ts160 Gs160 s160; refine ko 1 (hLg pW kk (kk : Int) (argTok 1 (codeOf (‹Cf› : Cf).t)) ws vw rfl hvw (by (run_tac om))) (by kernel_rfl) ?_ ?_)
      · trivial
      intro r H' h
      rw [hvw2] at h
      (apply Rets.elim h; intro k7 a7 J)
      intro n3 t3 G3 s
      (run_tac gR 7 1)
      refine gview 0 ⟨.t "str_ascii_iterator", none, .fields [.s ⟨⟨word⟩⟩, .i ((0 : Nat) : Int)]⟩ ⟨.t (if (true && (⟨⟨word⟩⟩ : Str).cps.all (· < 128)) then "str_ascii_iterator" else "str_iterator"), none, .fields [.s ⟨⟨word⟩⟩, .i 0]⟩ (by kernel_rfl) (by rw [ascii_all h128]; rfl) fun jv J => ?_
      intro s
      (run_tac gR 1 1)
      (refine gp [0, 4, 5, 2, 6, 7, 1, 3] 8 [] 0 (by kernel_rfl) ?_; intro ns164 ts164 Gs164 s164)
      (refine gp [0, 1, 2, 3, 4, 5, 6, 7] 8 [] 0 (by kernel_rfl) ?_; intro ns165 ts165 Gs165 s165; refine kc 6 ((hI word) ⟨pW, pM, pC, pD, pFr, pPc⟩ n3 0 kk word ms cs cv vm m ds ⟨ent, [], place⟩ [(.s sSign, .s s0)] rfl hcv hcl hvm hvm2 (by (run_tac om)) (by simp only [List.length_cons] at hdl; (run_tac om)) (by simp only [List.length_nil]; (run_tac om)) (.inr ⟨_, rfl⟩)) (by kernel_rfl) ?_ ?_)
      · have e : dropC (dropC (‹Cf› : Cf).cells 6) 2 = T := by kernel_rfl
        exact hO.sub fun _ hq => mem_dropC (e ▸ hq)
      rintro r H' ⟨ds1, loc1, N, X, hX, ⟨_, hl1⟩ | ⟨vs, rfl⟩, hO1, h⟩
      · exact absurd hl1 hwn
      rw [hX] at h hO1
      have ha9 : allNot (takeC (dropC (‹Cf› : Cf).cells 6 ++ N) 2) = true := by kernel_rfl
      have ha8 : dropC (dropC (‹Cf› : Cf).cells 6 ++ N) 2 = T ++ N := by kernel_rfl
      have hO2 := objs_down 2 hO1 ha9 ha8
      have hfl := foldD_len cv m word ⟨ent, [], place⟩
      obtain ⟨⟨en2, tok, p2⟩, hS⟩ : ∃ S, S = word.foldl (stepD cv m) ⟨ent, [], place⟩ := ⟨_, rfl⟩
      rw [← hS] at hO2 h hfl
      have hfl2 : en2.length ≤ ent.length + word.length := hfl
      have hdl2 : ds1.length = en2.length := hO2.lens
      have hdl3 : ds.length = ent.length := hO.lens
      (apply Flows.elim h; intro J)
      intro n4 t4 G4 s
      (run_tac gR 8 69)
      refine gs (!((⟨⟨tok⟩⟩ : Str).cps.toList == ([] : List Nat))) (by kernel_rfl) (fun hq => ?_) (fun hq => ?_)
      · have hqq : tok ≠ [] := by rintro rfl; simp at hq
        intro s
        (run_tac gR 31 321199392962423447359557)
        (refine gp [2, 1, 0, 6, 4, 3, 5, 7, 8, 9] 10 [] 0 (by kernel_rfl) ?_; intro ns169 ts169 Gs169 s169; refine kc 5 (hCs n4 (n4 + 1) (n4 + 2) pFr pPc pC cs cv p2 hcv hcl) (by kernel_rfl) ?_ ?_)
        · trivial
        rintro r H' ⟨ys', loc', hyl, hlc, h⟩
        have hyb : ys'.length ≤ 900 := by rw [hyl]; exact Nat.le_trans (List.length_filter_le _ _) hcl
        (apply Flows.elim h; intro J)
        intro nq tq Gq s
        rcases hlc with rfl | ⟨vc, rfl⟩
        · (run_tac gR 3 2)
          (refine gp [0, 2, 3, 4, 5, 6, 7, 8] 9 [] 0 (by kernel_rfl) ?_; intro ns172 ts172 Gs172 s172; refine ko 1 (hLn (n4 + 1) ys' (by (run_tac om))) (by kernel_rfl) ?_ ?_)
          · trivial
          intro r H' h
          rw [hyl] at h
          (apply Rets.elim h; intro kw aw J)
          intro nw tw Gw s
          (run_tac gR 11 5)
          (refine gp [4, 0, 2, 3, 5, 6, 7, 8] 9 [] 0 (by kernel_rfl) ?_; intro ns175 ts175 Gs175 s175; refine ko 1 (hAp pD (ds1.map .ref) (.ref (nw + 281)) (by simp only [List.length_cons, List.length_map] at hdl ⊢; (run_tac om))) (by kernel_rfl) ?_ ?_)
          · trivial
          intro r H' h
          (apply Rets.elim h; intro kv av J)
          intro nv tv Gv s
          (run_tac gR 13 5453926790)
          (refine gp [4, 0, 1, 2, 3, 5, 6, 7] 8 [] 0 (by kernel_rfl) ?_; intro ns178 ts178 Gs178 s178; refine ko 1 (hLg pM kk (kk : Int) (argTok 1 (codeOf (‹Cf› : Cf).t)) ms vm rfl hvm (by (run_tac om))) (by kernel_rfl) ?_ ?_)
          · trivial
          intro r H' h
          rw [hvm2] at h
          (apply Rets.elim h; intro km7 am7 J)
          intro nm7 tm7 Gm7 s
          (run_tac gR 6 1)
          refine gs (decide (0 < m)) (by kernel_rfl) (fun hm1 => ?_) (fun hm1 => ?_)
          · exact absurd (hm0.symm.trans hm1) (by decide)
          · intro s
            (run_tac gR 14 20805)
            (refine gp [7, 1, 4, 0, 3, 6, 5, 2] 8 [] 0 (by kernel_rfl) ?_; intro ns182 ts182 Gs182 s182)
            refine gview 1 ⟨.t "list", none, .seqV ((ds1 ++ [nw + 281]).map .ref)⟩ ⟨.t "list", none, .seqV (ds1.map .ref ++ [.ref (nw + 281)])⟩ (by kernel_rfl) (by rw [List.map_append]; rfl) fun jv J => ?_
            intro s
            obtain ⟨o, ho⟩ : ∃ o : Obj, o = { cls := .type "tuple", data := .seq #[.str ⟨⟨tok⟩⟩ (strTok (seqAt (‹Cf› : Cf).cells 7) 0), .int (1 + (cntC cv p2 : Int)) (intTok (seqAt (‹Cf› : Cf).cells 7) 1)] (epAt (‹Cf› : Cf).cells 7) } := ⟨_, rfl⟩
            refine gtail 7 (nw + 281, o) (T ++ N) (by rw [ho]; kernel_rfl) fun nr tr Gr => ?_
            intro s
            (refine gp [0, 1, 2, 3, 4, 5, 6] 7 [] 0 (by kernel_rfl) ?_; intro ns183 ts183 Gs183 s183; refine kaw (T := ((T ++ N ++ [(nw + 281, o)]))) (GT := GT) 7 ((hn ⟨pW, pM, pC, pD, pFr, pPc⟩ pI (kk + 1) ws ms cs cv wl (ds1 ++ [nw + 281]) (en2 ++ [(tok, 1 + (cntC cv p2 : Int))], p2 + 1) [(.s sK, .i (kk : Nat)), (.s sToken, .s ⟨⟨tok⟩⟩), (.s sSign, .s vs)] hdr' hws hms hok hwl hcv hcl (by simp only [List.length_cons, List.length_append, List.length_nil] at hdl ⊢; (run_tac om)) (.inr ⟨_, _, _, rfl⟩))) (by kernel_rfl) ?_ ?_)
            · exact (hO2.sub fun _ h => List.mem_append_left _ h).snoc (List.mem_append_right _ (List.mem_singleton.mpr rfl)) ⟨_, _, _, ho⟩
            rintro r H' ⟨ds9, loc9, N9, X9, hX9, hl9, h29, h39⟩
            have hwd : wordD cv word m (ent, place) = (en2 ++ [(tok, 1 + (cntC cv p2 : Int))], p2 + 1) := by
              rw [wordD_eq (if_neg (of_decide_eq_false hm0)) hS, if_neg hqq, if_neg (of_decide_eq_false hm0)]
            rw [show dueRun cv ((word, m) :: rest) (ent, place) = dueRun cv rest (wordD cv word m (ent, place)) from rfl, hwd]
            exact ⟨ds9, loc9, N ++ ([(nw + 281, o)] ++ N9), X9, by rw [hX9]; simp only [List.append_assoc], hl9, h29, h39⟩
        · (run_tac gR 7 8322)
          (refine gp [0, 2, 3, 4, 5, 6, 7, 8] 9 [] 0 (by kernel_rfl) ?_; intro ns186 ts186 Gs186 s186; refine ko 1 (hLn (n4 + 1) ys' (by (run_tac om))) (by kernel_rfl) ?_ ?_)
          · trivial
          intro r H' h
          rw [hyl] at h
          (apply Rets.elim h; intro kw aw J)
          intro nw tw Gw s
          (run_tac gR 11 5)
          (refine gp [4, 0, 2, 3, 5, 6, 7, 8] 9 [] 0 (by kernel_rfl) ?_; intro ns189 ts189 Gs189 s189; refine ko 1 (hAp pD (ds1.map .ref) (.ref (nw + 281)) (by simp only [List.length_cons, List.length_map] at hdl ⊢; (run_tac om))) (by kernel_rfl) ?_ ?_)
          · trivial
          intro r H' h
          (apply Rets.elim h; intro kv av J)
          intro nv tv Gv s
          (run_tac gR 13 5453926790)
          (refine gp [4, 0, 1, 2, 3, 5, 6, 7] 8 [] 0 (by kernel_rfl) ?_; intro ns192 ts192 Gs192 s192; refine ko 1 (hLg pM kk (kk : Int) (argTok 1 (codeOf (‹Cf› : Cf).t)) ms vm rfl hvm (by (run_tac om))) (by kernel_rfl) ?_ ?_)
          · trivial
          intro r H' h
          rw [hvm2] at h
          (apply Rets.elim h; intro km7 am7 J)
          intro nm7 tm7 Gm7 s
          (run_tac gR 6 1)
          refine gs (decide (0 < m)) (by kernel_rfl) (fun hm1 => ?_) (fun hm1 => ?_)
          · exact absurd (hm0.symm.trans hm1) (by decide)
          · intro s
            (run_tac gR 14 20805)
            (refine gp [7, 1, 4, 0, 3, 6, 5, 2] 8 [] 0 (by kernel_rfl) ?_; intro ns196 ts196 Gs196 s196)
            refine gview 1 ⟨.t "list", none, .seqV ((ds1 ++ [nw + 281]).map .ref)⟩ ⟨.t "list", none, .seqV (ds1.map .ref ++ [.ref (nw + 281)])⟩ (by kernel_rfl) (by rw [List.map_append]; rfl) fun jv J => ?_
            intro s
            obtain ⟨o, ho⟩ : ∃ o : Obj, o = { cls := .type "tuple", data := .seq #[.str ⟨⟨tok⟩⟩ (strTok (seqAt (‹Cf› : Cf).cells 7) 0), .int (1 + (cntC cv p2 : Int)) (intTok (seqAt (‹Cf› : Cf).cells 7) 1)] (epAt (‹Cf› : Cf).cells 7) } := ⟨_, rfl⟩
            refine gtail 7 (nw + 281, o) (T ++ N) (by rw [ho]; kernel_rfl) fun nr tr Gr => ?_
            intro s
            (refine gp [0, 1, 2, 3, 4, 5, 6] 7 [] 0 (by kernel_rfl) ?_; intro ns197 ts197 Gs197 s197; refine kaw (T := ((T ++ N ++ [(nw + 281, o)]))) (GT := GT) 7 ((hn ⟨pW, pM, pC, pD, pFr, pPc⟩ pI (kk + 1) ws ms cs cv wl (ds1 ++ [nw + 281]) (en2 ++ [(tok, 1 + (cntC cv p2 : Int))], p2 + 1) [(.s sK, .i (kk : Nat)), (.s sToken, .s ⟨⟨tok⟩⟩), (.s sSign, .s vs)] hdr' hws hms hok hwl hcv hcl (by simp only [List.length_cons, List.length_append, List.length_nil] at hdl ⊢; (run_tac om)) (.inr ⟨_, _, _, rfl⟩))) (by kernel_rfl) ?_ ?_)
            · exact (hO2.sub fun _ h => List.mem_append_left _ h).snoc (List.mem_append_right _ (List.mem_singleton.mpr rfl)) ⟨_, _, _, ho⟩
            rintro r H' ⟨ds9, loc9, N9, X9, hX9, hl9, h29, h39⟩
            have hwd : wordD cv word m (ent, place) = (en2 ++ [(tok, 1 + (cntC cv p2 : Int))], p2 + 1) := by
              rw [wordD_eq (if_neg (of_decide_eq_false hm0)) hS, if_neg hqq, if_neg (of_decide_eq_false hm0)]
            rw [show dueRun cv ((word, m) :: rest) (ent, place) = dueRun cv rest (wordD cv word m (ent, place)) from rfl, hwd]
            exact ⟨ds9, loc9, N ++ ([(nw + 281, o)] ++ N9), X9, by rw [hX9]; simp only [List.append_assoc], hl9, h29, h39⟩
      · have hqq : tok = [] := by simpa using hq
        intro s
        (run_tac gR 12 3272356165)
        (refine gp [2, 0, 1, 3, 4, 5, 6] 7 [] 0 (by kernel_rfl) ?_; intro ns200 ts200 Gs200 s200; refine ko 1 (hLg pM kk (kk : Int) (argTok 1 (codeOf (‹Cf› : Cf).t)) ms vm rfl hvm (by (run_tac om))) (by kernel_rfl) ?_ ?_)
        · trivial
        intro r H' h
        rw [hvm2] at h
        (apply Rets.elim h; intro km8 am8 J)
        intro nm8 tm8 Gm8 s
        (run_tac gR 6 1)
        refine gs (decide (0 < m)) (by kernel_rfl) (fun hm1 => ?_) (fun hm1 => ?_)
        · exact absurd (hm0.symm.trans hm1) (by decide)
        · intro s
          (run_tac gR 14 12483)
          (refine gp [6, 1, 2, 0, 3, 5, 4] 7 [] 0 (by kernel_rfl) ?_; intro ns204 ts204 Gs204 s204)
          (refine gp [0, 1, 2, 3, 4, 5, 6] 7 [] 0 (by kernel_rfl) ?_; intro ns205 ts205 Gs205 s205; refine kaw (T := ((T ++ N))) (GT := GT) 7 ((hn ⟨pW, pM, pC, pD, pFr, pPc⟩ pI (kk + 1) ws ms cs cv wl (ds1) (en2, p2 + 1) [(.s sK, .i (kk : Nat)), (.s sToken, .s ⟨⟨tok⟩⟩), (.s sSign, .s vs)] hdr' hws hms hok hwl hcv hcl (by simp only [List.length_cons, List.length_append, List.length_nil] at hdl ⊢; (run_tac om)) (.inr ⟨_, _, _, rfl⟩))) (by kernel_rfl) ?_ ?_)
          · exact hO2
          rintro r H' ⟨ds9, loc9, N9, X9, hX9, hl9, h29, h39⟩
          have hwd : wordD cv word m (ent, place) = (en2, p2 + 1) := by
            rw [wordD_eq (if_neg (of_decide_eq_false hm0)) hS, if_pos hqq, if_neg (of_decide_eq_false hm0)]
          rw [show dueRun cv ((word, m) :: rest) (ent, place) = dueRun cv rest (wordD cv word m (ent, place)) from rfl, hwd]
          exact ⟨ds9, loc9, N ++ N9, X9, by rw [hX9]; simp only [List.append_assoc], hl9, h29, h39⟩)
  run_tac sq
set_option maxHeartbeats 0 in
theorem do_z : DuOOk (cx w b1 b2 h₀ d os hk hN) (W2 w b1 b2).params [] := by
  run_tac sq0
  intro I pI kk ws ms cs cv wl ds E loc hdr hws hms hok hwl hcv hcl hdl hloc
  refine sp_of fun pp T GT J hO n t G => ?_
  intro s
  obtain ⟨pW, pM, pC, pD, pFr, pPc⟩ := I
  obtain ⟨ent, place⟩ := E
  have hloc0 := hloc
  rcases hloc with rfl | ⟨k0, t0, s0, rfl⟩ <;> (
    (run_tac gR 15 1090785345)
    (refine gp [3, 4, 5, 6, 7, 8] 9 [] 0 (by kernel_rfl) ?_; intro ns208 ts208 Gs208 s208)
    refine ke (by kernel_rfl) ?_
    exact ⟨ds, _, [], T, (List.append_nil T).symm, hloc0, hO, flows 6 (by kernel_rfl)⟩)
  run_tac sq
set_option maxHeartbeats 0 in
theorem due_t (h1 : ∀ l, DuOOk (cx w b1 b2 h₀ d os hk hN) (W2 w b1 b2).params l) : DueOk (cx w b1 b2 h₀ d os hk hN) := by
  run_tac sq0
  (
  intro pW pM pC ws ms cs cv wl hws hms hok hwl hcv hcl
  refine sp_of fun pp T GT J hO n t G => ?_
  intro s
  have hwsl : ws.length = wl.length := by have := congrArg List.length hws; simpa using this
  (run_tac gR 101 67809076381032465111229530471926779159487345073981529323516723813603902406879484786557403529216)
  refine gint (by kernel_rfl) fun m hm => ?_
  have hm3 : m = (ws.length : Int) := hm.trans (by kernel_rfl)
  intro s
  (run_tac gR 2 0)
  (run_tac Mine.gxT 0)
  intro z _
  cases z with
  | isTrue h => exact absurd h (by (run_tac om))
  | isFalse h =>
  intro s
  (run_tac gR 0 0)
  (run_tac Mine.gxT 0)
  intro z _
  cases z with
  | isTrue h => exact absurd h (by (run_tac om))
  | isFalse h =>
  intro s
  (run_tac gR 32 1171221845949812801)
  (run_tac Mine.gxT 0)
  intro z _
  cases z with
  | isTrue h => exact absurd ((congrArg (fun b => !b) (smallU (m := m) (by (run_tac om)) (by (run_tac om)))).symm.trans h) (by decide)
  | isFalse h =>
  intro s
  (run_tac gR 2 0)
  refine gview 0 ⟨.t "range_iterator", none, .fields [.i ((0 : Nat) : Int), .i (wl.length : Nat), .i 1]⟩ (rngItU m) (by kernel_rfl) (by rw [itU (by (run_tac om)) (by (run_tac om)), hm3, hwsl]; rfl) fun jv J => ?_
  intro s
  (run_tac gR 1 1)
  (refine gp [0, 6, 7, 8, 9, 10, 11] 12 [] 0 (by kernel_rfl) ?_; intro ns7 ts7 Gs7 s7)
  (refine gp [0, 1, 2, 5, 6, 4, 3] 7 [] 0 (by kernel_rfl) ?_; intro ns8 ts8 Gs8 s8; refine kc 7 ((h1 wl) ⟨pW, pM, pC, n + 2, n, n + 1⟩ (n + 8) 0 ws ms cs cv wl [] ([], 0) [] rfl hws hms hok hwl hcv hcl (by simp only [List.length_nil]; (run_tac om)) (.inl rfl)) (by kernel_rfl) ?_ ?_)
  · exact .nil
  rintro r H' ⟨ds, loc, N, X, hX, hl, hO2, h⟩
  have e4 : dropC (‹Cf› : Cf).cells 7 = T := by kernel_rfl
  rw [e4] at hX
  subst hX
  (apply Flows.elim h; intro J)
  intro n2 t2 G2 s
  rcases hl with rfl | ⟨k0, t0, s0, rfl⟩ <;> (
    (run_tac gR 3 6)
    (refine gp [0, 4, 2, 3] 6 [] 0 (by kernel_rfl) ?_; intro ns11 ts11 Gs11 s11)
    refine ke (by kernel_rfl) ?_
    exact ⟨n + 2, ds, N, T ++ N, rfl, hO2, rets 4 (by kernel_rfl)⟩)
  )
  run_tac sq
set_option maxHeartbeats 0 in
theorem wds_t (hWd : WordOk (cx w b1 b2 h₀ d os hk hN)) : NbOk (cx w b1 b2 h₀ d os hk hN) (wdE (W2 w b1 b2).params) (fun m => VV.s (wordOf m)) := by
  run_tac sq0
  intro pI pA pC pFr pN N
  refine sp_of fun p T GT J hP n t G => ?_
  intro s
  cases b1
  · (run_tac gR 36 15215579056096733906509775507520)
    (refine gp [0, 1, 2, 3] 4 [] 0 (by kernel_rfl) ?_; intro ns2 ts2 Gs2 s2; refine kc 0 (hWd N.n0 (argTok 0 (codeOf (‹Cf› : Cf).t))) (by kernel_rfl) ?_ ?_)
    · trivial
    intro r H' h
    (apply Rets.elim h; intro k0 a0 J)
    intro n0 t0 G0 s
    (run_tac gR 33 3714740980492366676394254466)
    (refine gp [0, 1, 2, 3] 4 [] 0 (by kernel_rfl) ?_; intro ns5 ts5 Gs5 s5; refine kc 0 (hWd N.n1 (argTok 0 (codeOf (‹Cf› : Cf).t))) (by kernel_rfl) ?_ ?_)
    · trivial
    intro r H' h
    (apply Rets.elim h; intro k1 a1 J)
    intro n1 t1 G1 s
    (run_tac gR 33 3714740980492366676394254466)
    (refine gp [0, 1, 2, 3] 4 [] 0 (by kernel_rfl) ?_; intro ns8 ts8 Gs8 s8; refine kc 0 (hWd N.n2 (argTok 0 (codeOf (‹Cf› : Cf).t))) (by kernel_rfl) ?_ ?_)
    · trivial
    intro r H' h
    (apply Rets.elim h; intro k2 a2 J)
    intro n2 t2 G2 s
    (run_tac gR 33 3714740980492366676394254466)
    (refine gp [0, 1, 2, 3] 4 [] 0 (by kernel_rfl) ?_; intro ns11 ts11 Gs11 s11; refine kc 0 (hWd N.n3 (argTok 0 (codeOf (‹Cf› : Cf).t))) (by kernel_rfl) ?_ ?_)
    · trivial
    intro r H' h
    (apply Rets.elim h; intro k3 a3 J)
    intro n3 t3 G3 s
    (run_tac gR 25 74959042565718417538)
    (refine gp [4, 3, 5] 6 [] 0 (by kernel_rfl) ?_; intro ns14 ts14 Gs14 s14)
    refine ke (by kernel_rfl) ?_
    exact ⟨seqAt (‹Cf› : Cf).cells 1, by kernel_rfl, flows 3 (by kernel_rfl)⟩
  · (run_tac gR 26 14170612260789362626624)
    (refine gp [0, 1, 2, 3] 4 [] 0 (by kernel_rfl) ?_; intro ns16 ts16 Gs16 s16; refine kc 0 (hWd N.n0 (argTok 0 (codeOf (‹Cf› : Cf).t))) (by kernel_rfl) ?_ ?_)
    · trivial
    intro r H' h
    (apply Rets.elim h; intro k0 a0 J)
    intro n0 t0 G0 s
    (run_tac gR 33 3714740980492366676394254466)
    (refine gp [0, 1, 2, 3] 4 [] 0 (by kernel_rfl) ?_; intro ns19 ts19 Gs19 s19; refine kc 0 (hWd N.n1 (argTok 0 (codeOf (‹Cf› : Cf).t))) (by kernel_rfl) ?_ ?_)
    · trivial
    intro r H' h
    (apply Rets.elim h; intro k1 a1 J)
    intro n1 t1 G1 s
    (run_tac gR 33 3714740980492366676394254466)
    (refine gp [0, 1, 2, 3] 4 [] 0 (by kernel_rfl) ?_; intro ns22 ts22 Gs22 s22; refine kc 0 (hWd N.n2 (argTok 0 (codeOf (‹Cf› : Cf).t))) (by kernel_rfl) ?_ ?_)
    · trivial
    intro r H' h
    (apply Rets.elim h; intro k2 a2 J)
    intro n2 t2 G2 s
    (run_tac gR 33 3714740980492366676394254466)
    (refine gp [0, 1, 2, 3] 4 [] 0 (by kernel_rfl) ?_; intro ns25 ts25 Gs25 s25; refine kc 0 (hWd N.n3 (argTok 0 (codeOf (‹Cf› : Cf).t))) (by kernel_rfl) ?_ ?_)
    · trivial
    intro r H' h
    (apply Rets.elim h; intro k3 a3 J)
    intro n3 t3 G3 s
    (run_tac gR 25 74959042565718417538)
    (refine gp [4, 3, 5] 6 [] 0 (by kernel_rfl) ?_; intro ns28 ts28 Gs28 s28)
    refine ke (by kernel_rfl) ?_
    exact ⟨seqAt (‹Cf› : Cf).cells 1, by kernel_rfl, flows 3 (by kernel_rfl)⟩
  run_tac sq
set_option maxHeartbeats 0 in
theorem mns_t : NbOk (cx w b1 b2 h₀ d os hk hN) (mnE (W2 w b1 b2).params) (fun m => VV.i (mnOf m)) := by
  run_tac sq0
  intro pI pA pC pFr pN N
  refine sp_of fun p T GT J hP n t G => ?_
  intro s
  cases b1
  · (run_tac gR 188 721078286047420558859859126622480233512973446736287727708720914716387134896492741548070569590445978996368180042787372843595966189632)
    (refine gp [4, 3, 5] 6 [] 0 (by kernel_rfl) ?_; intro ns30 ts30 Gs30 s30)
    refine ke (by kernel_rfl) ?_
    exact ⟨seqAt (‹Cf› : Cf).cells 1, by kernel_rfl, flows 3 (by kernel_rfl)⟩
  · (run_tac gR 178 671556485861000194083768061010614254989636546686559661951587456014367877409321015279805818191213513721123505423578780930112)
    (refine gp [4, 3, 5] 6 [] 0 (by kernel_rfl) ?_; intro ns32 ts32 Gs32 s32)
    refine ke (by kernel_rfl) ?_
    exact ⟨seqAt (‹Cf› : Cf).cells 1, by kernel_rfl, flows 3 (by kernel_rfl)⟩
  run_tac sq
set_option maxHeartbeats 0 in
theorem lns_t (hWr : WrittenOk (cx w b1 b2 h₀ d os hk hN)) : LnsOk (cx w b1 b2 h₀ d os hk hN) (W2 w b1 b2).params := by
  run_tac sq0
  intro pI pA pC pFr cW cM pW pM w0 w1 w2 w3 w4 m0 m1 m2 m3 m4 hw
  refine sp_of fun p T GT J hP n t G => ?_
  intro s
  cases b1
  · (run_tac gR 63 44637167872514899405116119261648461168491530919344381104192)
    (refine gp [0, 1, 2, 3, 4, 5, 6] 7 [] 0 (by kernel_rfl) ?_; intro ns2 ts2 Gs2 s2; refine kc 0 (hWr w0 m0 (argTok 0 (codeOf (‹Cf› : Cf).t)) (argTok 1 (codeOf (‹Cf› : Cf).t)) (hw w0 (by simp)).1 (hw w0 (by simp)).2.1 (hw w0 (by simp)).2.2) (by kernel_rfl) ?_ ?_)
    · trivial
    intro r H' h
    (apply Rets.elim h; intro k0 a0 J)
    intro n0 t0 G0 s
    (run_tac gR 25 1090785475)
    (refine gp [1, 2, 3, 4, 5, 6, 7] 8 [] 0 (by kernel_rfl) ?_; intro ns5 ts5 Gs5 s5; refine kb (by kernel_rfl) (fun _ _ => stradd_ok (x := ⟨⟨writ w0 m0⟩⟩) (y := ⟨⟨[32]⟩⟩) (by kernel_rfl) (by rw [len_app]; have h9 := sizeLine_eq; have := writ_len m0 (hw w0 (by simp)).2.2; simp only [Str.length, List.size_toArray, List.length_cons, List.length_nil]; (run_tac om))) ?_)
    rintro _ ⟨z, kz0, rfl, hz⟩
    obtain rfl : z = ⟨⟨writ w0 m0 ++ [32]⟩⟩ := hz.trans (app_list _ _)
    intro nz0 tz0 Gz0 s
    (run_tac gR 60 10897746062625707862577177554113393839963752665855828098)
    (refine gp [0, 1, 2, 3, 4, 5, 6] 7 [] 0 (by kernel_rfl) ?_; intro ns7 ts7 Gs7 s7; refine kc 0 (hWr w1 m1 (argTok 0 (codeOf (‹Cf› : Cf).t)) (argTok 1 (codeOf (‹Cf› : Cf).t)) (hw w1 (by simp)).1 (hw w1 (by simp)).2.1 (hw w1 (by simp)).2.2) (by kernel_rfl) ?_ ?_)
    · trivial
    intro r H' h
    (apply Rets.elim h; intro k1 a1 J)
    intro n1 t1 G1 s
    (run_tac gR 25 1090785475)
    (refine gp [1, 2, 3, 4, 5, 6, 7] 8 [] 0 (by kernel_rfl) ?_; intro ns10 ts10 Gs10 s10; refine kb (by kernel_rfl) (fun _ _ => stradd_ok (x := ⟨⟨writ w1 m1⟩⟩) (y := ⟨⟨[9]⟩⟩) (by kernel_rfl) (by rw [len_app]; have h9 := sizeLine_eq; have := writ_len m1 (hw w1 (by simp)).2.2; simp only [Str.length, List.size_toArray, List.length_cons, List.length_nil]; (run_tac om))) ?_)
    rintro _ ⟨z, kz1, rfl, hz⟩
    obtain rfl : z = ⟨⟨writ w1 m1 ++ [9]⟩⟩ := hz.trans (app_list _ _)
    intro nz1 tz1 Gz1 s
    (run_tac gR 60 10897746062625707862577177554113393839963752665855828098)
    (refine gp [0, 1, 2, 3, 4, 5, 6] 7 [] 0 (by kernel_rfl) ?_; intro ns12 ts12 Gs12 s12; refine kc 0 (hWr w2 m2 (argTok 0 (codeOf (‹Cf› : Cf).t)) (argTok 1 (codeOf (‹Cf› : Cf).t)) (hw w2 (by simp)).1 (hw w2 (by simp)).2.1 (hw w2 (by simp)).2.2) (by kernel_rfl) ?_ ?_)
    · trivial
    intro r H' h
    (apply Rets.elim h; intro k2 a2 J)
    intro n2 t2 G2 s
    (run_tac gR 25 1090785475)
    (refine gp [1, 2, 3, 4, 5, 6, 7] 8 [] 0 (by kernel_rfl) ?_; intro ns15 ts15 Gs15 s15; refine kb (by kernel_rfl) (fun _ _ => stradd_ok (x := ⟨⟨writ w2 m2⟩⟩) (y := ⟨⟨[32]⟩⟩) (by kernel_rfl) (by rw [len_app]; have h9 := sizeLine_eq; have := writ_len m2 (hw w2 (by simp)).2.2; simp only [Str.length, List.size_toArray, List.length_cons, List.length_nil]; (run_tac om))) ?_)
    rintro _ ⟨z, kz2, rfl, hz⟩
    obtain rfl : z = ⟨⟨writ w2 m2 ++ [32]⟩⟩ := hz.trans (app_list _ _)
    intro nz2 tz2 Gz2 s
    (run_tac gR 60 10897746062625707862577177554113393839963752665855828098)
    (refine gp [0, 1, 2, 3, 4, 5, 6] 7 [] 0 (by kernel_rfl) ?_; intro ns17 ts17 Gs17 s17; refine kc 0 (hWr w3 m3 (argTok 0 (codeOf (‹Cf› : Cf).t)) (argTok 1 (codeOf (‹Cf› : Cf).t)) (hw w3 (by simp)).1 (hw w3 (by simp)).2.1 (hw w3 (by simp)).2.2) (by kernel_rfl) ?_ ?_)
    · trivial
    intro r H' h
    (apply Rets.elim h; intro k3 a3 J)
    intro n3 t3 G3 s
    (run_tac gR 25 1090785475)
    (refine gp [1, 2, 3, 4, 5, 6, 7] 8 [] 0 (by kernel_rfl) ?_; intro ns20 ts20 Gs20 s20; refine kb (by kernel_rfl) (fun _ _ => stradd_ok (x := ⟨⟨writ w3 m3⟩⟩) (y := ⟨⟨[9]⟩⟩) (by kernel_rfl) (by rw [len_app]; have h9 := sizeLine_eq; have := writ_len m3 (hw w3 (by simp)).2.2; simp only [Str.length, List.size_toArray, List.length_cons, List.length_nil]; (run_tac om))) ?_)
    rintro _ ⟨z, kz3, rfl, hz⟩
    obtain rfl : z = ⟨⟨writ w3 m3 ++ [9]⟩⟩ := hz.trans (app_list _ _)
    intro nz3 tz3 Gz3 s
    (run_tac gR 60 10897746062625707862577177554113393839963752665855828098)
    (refine gp [0, 1, 2, 3, 4, 5, 6] 7 [] 0 (by kernel_rfl) ?_; intro ns22 ts22 Gs22 s22; refine kc 0 (hWr w4 m4 (argTok 0 (codeOf (‹Cf› : Cf).t)) (argTok 1 (codeOf (‹Cf› : Cf).t)) (hw w4 (by simp)).1 (hw w4 (by simp)).2.1 (hw w4 (by simp)).2.2) (by kernel_rfl) ?_ ?_)
    · trivial
    intro r H' h
    (apply Rets.elim h; intro k4 a4 J)
    intro n4 t4 G4 s
    (run_tac gR 25 1090785475)
    (refine gp [1, 2, 3, 4, 5, 6, 7] 8 [] 0 (by kernel_rfl) ?_; intro ns25 ts25 Gs25 s25; refine kb (by kernel_rfl) (fun _ _ => stradd_ok (x := ⟨⟨writ w4 m4⟩⟩) (y := ⟨⟨[]⟩⟩) (by kernel_rfl) (by rw [len_app]; have h9 := sizeLine_eq; have := writ_len m4 (hw w4 (by simp)).2.2; simp only [Str.length, List.size_toArray, List.length_cons, List.length_nil]; (run_tac om))) ?_)
    rintro _ ⟨z, kz4, rfl, hz⟩
    obtain rfl : z = ⟨⟨writ w4 m4 ++ []⟩⟩ := hz.trans (app_list _ _)
    intro nz4 tz4 Gz4 s
    (run_tac gR 23 18300341343232130)
    (refine gp [4, 3, 5, 6, 7, 8] 9 [] 0 (by kernel_rfl) ?_; intro ns27 ts27 Gs27 s27)
    refine ke (by kernel_rfl) ?_
    exact ⟨seqAt (‹Cf› : Cf).cells 1, by kernel_rfl, flows 6 (by kernel_rfl)⟩
  · (run_tac gR 53 41571602106573897791203222481206488952498446143552)
    (refine gp [0, 1, 2, 3, 4, 5, 6] 7 [] 0 (by kernel_rfl) ?_; intro ns29 ts29 Gs29 s29; refine kc 0 (hWr w0 m0 (argTok 0 (codeOf (‹Cf› : Cf).t)) (argTok 1 (codeOf (‹Cf› : Cf).t)) (hw w0 (by simp)).1 (hw w0 (by simp)).2.1 (hw w0 (by simp)).2.2) (by kernel_rfl) ?_ ?_)
    · trivial
    intro r H' h
    (apply Rets.elim h; intro k0 a0 J)
    intro n0 t0 G0 s
    (run_tac gR 25 1090785475)
    (refine gp [1, 2, 3, 4, 5, 6, 7] 8 [] 0 (by kernel_rfl) ?_; intro ns32 ts32 Gs32 s32; refine kb (by kernel_rfl) (fun _ _ => stradd_ok (x := ⟨⟨writ w0 m0⟩⟩) (y := ⟨⟨[32]⟩⟩) (by kernel_rfl) (by rw [len_app]; have h9 := sizeLine_eq; have := writ_len m0 (hw w0 (by simp)).2.2; simp only [Str.length, List.size_toArray, List.length_cons, List.length_nil]; (run_tac om))) ?_)
    rintro _ ⟨z, kz0, rfl, hz⟩
    obtain rfl : z = ⟨⟨writ w0 m0 ++ [32]⟩⟩ := hz.trans (app_list _ _)
    intro nz0 tz0 Gz0 s
    (run_tac gR 60 10897746062625707862577177554113393839963752665855828098)
    (refine gp [0, 1, 2, 3, 4, 5, 6] 7 [] 0 (by kernel_rfl) ?_; intro ns34 ts34 Gs34 s34; refine kc 0 (hWr w1 m1 (argTok 0 (codeOf (‹Cf› : Cf).t)) (argTok 1 (codeOf (‹Cf› : Cf).t)) (hw w1 (by simp)).1 (hw w1 (by simp)).2.1 (hw w1 (by simp)).2.2) (by kernel_rfl) ?_ ?_)
    · trivial
    intro r H' h
    (apply Rets.elim h; intro k1 a1 J)
    intro n1 t1 G1 s
    (run_tac gR 25 1090785475)
    (refine gp [1, 2, 3, 4, 5, 6, 7] 8 [] 0 (by kernel_rfl) ?_; intro ns37 ts37 Gs37 s37; refine kb (by kernel_rfl) (fun _ _ => stradd_ok (x := ⟨⟨writ w1 m1⟩⟩) (y := ⟨⟨[9]⟩⟩) (by kernel_rfl) (by rw [len_app]; have h9 := sizeLine_eq; have := writ_len m1 (hw w1 (by simp)).2.2; simp only [Str.length, List.size_toArray, List.length_cons, List.length_nil]; (run_tac om))) ?_)
    rintro _ ⟨z, kz1, rfl, hz⟩
    obtain rfl : z = ⟨⟨writ w1 m1 ++ [9]⟩⟩ := hz.trans (app_list _ _)
    intro nz1 tz1 Gz1 s
    (run_tac gR 60 10897746062625707862577177554113393839963752665855828098)
    (refine gp [0, 1, 2, 3, 4, 5, 6] 7 [] 0 (by kernel_rfl) ?_; intro ns39 ts39 Gs39 s39; refine kc 0 (hWr w2 m2 (argTok 0 (codeOf (‹Cf› : Cf).t)) (argTok 1 (codeOf (‹Cf› : Cf).t)) (hw w2 (by simp)).1 (hw w2 (by simp)).2.1 (hw w2 (by simp)).2.2) (by kernel_rfl) ?_ ?_)
    · trivial
    intro r H' h
    (apply Rets.elim h; intro k2 a2 J)
    intro n2 t2 G2 s
    (run_tac gR 25 1090785475)
    (refine gp [1, 2, 3, 4, 5, 6, 7] 8 [] 0 (by kernel_rfl) ?_; intro ns42 ts42 Gs42 s42; refine kb (by kernel_rfl) (fun _ _ => stradd_ok (x := ⟨⟨writ w2 m2⟩⟩) (y := ⟨⟨[32]⟩⟩) (by kernel_rfl) (by rw [len_app]; have h9 := sizeLine_eq; have := writ_len m2 (hw w2 (by simp)).2.2; simp only [Str.length, List.size_toArray, List.length_cons, List.length_nil]; (run_tac om))) ?_)
    rintro _ ⟨z, kz2, rfl, hz⟩
    obtain rfl : z = ⟨⟨writ w2 m2 ++ [32]⟩⟩ := hz.trans (app_list _ _)
    intro nz2 tz2 Gz2 s
    (run_tac gR 60 10897746062625707862577177554113393839963752665855828098)
    (refine gp [0, 1, 2, 3, 4, 5, 6] 7 [] 0 (by kernel_rfl) ?_; intro ns44 ts44 Gs44 s44; refine kc 0 (hWr w3 m3 (argTok 0 (codeOf (‹Cf› : Cf).t)) (argTok 1 (codeOf (‹Cf› : Cf).t)) (hw w3 (by simp)).1 (hw w3 (by simp)).2.1 (hw w3 (by simp)).2.2) (by kernel_rfl) ?_ ?_)
    · trivial
    intro r H' h
    (apply Rets.elim h; intro k3 a3 J)
    intro n3 t3 G3 s
    (run_tac gR 25 1090785475)
    (refine gp [1, 2, 3, 4, 5, 6, 7] 8 [] 0 (by kernel_rfl) ?_; intro ns47 ts47 Gs47 s47; refine kb (by kernel_rfl) (fun _ _ => stradd_ok (x := ⟨⟨writ w3 m3⟩⟩) (y := ⟨⟨[9]⟩⟩) (by kernel_rfl) (by rw [len_app]; have h9 := sizeLine_eq; have := writ_len m3 (hw w3 (by simp)).2.2; simp only [Str.length, List.size_toArray, List.length_cons, List.length_nil]; (run_tac om))) ?_)
    rintro _ ⟨z, kz3, rfl, hz⟩
    obtain rfl : z = ⟨⟨writ w3 m3 ++ [9]⟩⟩ := hz.trans (app_list _ _)
    intro nz3 tz3 Gz3 s
    (run_tac gR 60 10897746062625707862577177554113393839963752665855828098)
    (refine gp [0, 1, 2, 3, 4, 5, 6] 7 [] 0 (by kernel_rfl) ?_; intro ns49 ts49 Gs49 s49; refine kc 0 (hWr w4 m4 (argTok 0 (codeOf (‹Cf› : Cf).t)) (argTok 1 (codeOf (‹Cf› : Cf).t)) (hw w4 (by simp)).1 (hw w4 (by simp)).2.1 (hw w4 (by simp)).2.2) (by kernel_rfl) ?_ ?_)
    · trivial
    intro r H' h
    (apply Rets.elim h; intro k4 a4 J)
    intro n4 t4 G4 s
    (run_tac gR 25 1090785475)
    (refine gp [1, 2, 3, 4, 5, 6, 7] 8 [] 0 (by kernel_rfl) ?_; intro ns52 ts52 Gs52 s52; refine kb (by kernel_rfl) (fun _ _ => stradd_ok (x := ⟨⟨writ w4 m4⟩⟩) (y := ⟨⟨[]⟩⟩) (by kernel_rfl) (by rw [len_app]; have h9 := sizeLine_eq; have := writ_len m4 (hw w4 (by simp)).2.2; simp only [Str.length, List.size_toArray, List.length_cons, List.length_nil]; (run_tac om))) ?_)
    rintro _ ⟨z, kz4, rfl, hz⟩
    obtain rfl : z = ⟨⟨writ w4 m4 ++ []⟩⟩ := hz.trans (app_list _ _)
    intro nz4 tz4 Gz4 s
    (run_tac gR 23 18300341343232130)
    (refine gp [4, 3, 5, 6, 7, 8] 9 [] 0 (by kernel_rfl) ?_; intro ns54 ts54 Gs54 s54)
    refine ke (by kernel_rfl) ?_
    exact ⟨seqAt (‹Cf› : Cf).cells 1, by kernel_rfl, flows 6 (by kernel_rfl)⟩
  run_tac sq
set_option maxHeartbeats 0 in
theorem sumw2_step {pS pI : Nat} {vs : List PySem.Value} {ve : Nat} {ns : List Int} (hns : vs.map vv = ns.map VV.i) {k : Nat} (IH : SumWOk (cx w b1 b2 h₀ d os hk hN) pS pI vs ve ns 2 k) :
    SumWOk (cx w b1 b2 h₀ d os hk hN) pS pI vs ve ns 2 (k + 1) := by
  run_tac sq0
  intro tot idx hf
  refine sp_of fun p T GT J hP n t G => ?_
  intro s
  (
     (run_tac gR 8 3255312513)
     (run_tac Mine.gxT 0)
     rcases vs_at hns idx with ⟨h1, h2⟩ | ⟨x, k2, h1, h2, h3⟩
     · intro y he
       obtain rfl : y = none := by rw [← he]; simpa using h1
       intro s
       (run_tac gR 8 4226)
       (refine gp [4] 5 [] 0 (by kernel_rfl) ?_; intro ns3 ts3 Gs3 s3; refine ke (by kernel_rfl) ?_)
       exact sumW_end h2 (rets 1 (by kernel_rfl))
     · intro y he
       obtain rfl : y = some (.int x k2) := by rw [← he]; simpa using h1
       intro s
       (run_tac gR 15 4467856773250)
       (refine gp [0, 1, 2] 3 [] 0 (by kernel_rfl) ?_; intro ns5 ts5 Gs5 s5; refine ka 3 (IH (tot + x) (idx + 1) (by (run_tac om))) (by kernel_rfl) ?_ ?_)
       · trivial
       · exact fun r H' h => sumW_step h2 h)
  run_tac sq
set_option maxHeartbeats 0 in
theorem sumw0_step {pS pI : Nat} {vs : List PySem.Value} {ve : Nat} {ns : List Int} (hns : vs.map vv = ns.map VV.i) {k : Nat} (IH : SumWOk (cx w b1 b2 h₀ d os hk hN) pS pI vs ve ns 2 k) (IH0 : SumWOk (cx w b1 b2 h₀ d os hk hN) pS pI vs ve ns 0 k) :
    SumWOk (cx w b1 b2 h₀ d os hk hN) pS pI vs ve ns 0 (k + 1) := by
  run_tac sq0
  intro tot idx hf
  refine sp_of fun p T GT J hP n t G => ?_
  intro s
  (
     (run_tac gR 8 3255312513)
     (run_tac Mine.gxT 0)
     rcases vs_at hns idx with ⟨h1, h2⟩ | ⟨x, k2, h1, h2, h3⟩
     · intro y he
       obtain rfl : y = none := by rw [← he]; simpa using h1
       intro s
       (run_tac gR 8 4226)
       (refine gp [4] 5 [] 0 (by kernel_rfl) ?_; intro ns9 ts9 Gs9 s9; refine ke (by kernel_rfl) ?_)
       exact sumW_end h2 (rets 1 (by kernel_rfl))
     · intro y he
       obtain rfl : y = some (.int x k2) := by rw [← he]; simpa using h1
       intro s
       (run_tac gR 3 130)
       (run_tac Mine.gxT 0)
       intro y _
       cases y with
       | isTrue h =>
         intro s
         (run_tac gR 4 4161)
         (refine gp [0, 1, 2] 3 [] 0 (by kernel_rfl) ?_; intro ns12 ts12 Gs12 s12; refine ka 3 (IH0 (tot + x) (idx + 1) (by (run_tac om))) (by kernel_rfl) ?_ ?_)
         · trivial
         · exact fun r H' h => sumW_step h2 h
       | isFalse h =>
         intro s
         (run_tac gR 13 1090785345)
         (refine gp [0, 1, 2] 3 [] 0 (by kernel_rfl) ?_; intro ns15 ts15 Gs15 s15; refine ka 3 (IH (tot + x) (idx + 1) (by (run_tac om))) (by kernel_rfl) ?_ ?_)
         · trivial
         · exact fun r H' h => sumW_step h2 h)
  run_tac sq
set_option maxHeartbeats 0 in
theorem ap_s (hNx : LNx (cx w b1 b2 h₀ d os hk hN)) (hAc : AcBV (cx w b1 b2 h₀ d os hk hN)) (q : Pc) (rest : List Pc) (hn : ApOk (cx w b1 b2 h₀ d os hk hN) (W2 w b1 b2).params rest) : ApOk (cx w b1 b2 h₀ d os hk hN) (W2 w b1 b2).params (q :: rest) := by
  run_tac sq0
  intro n0 l pP pI idx a pcs as0 as ps lines tb1 tb2 ls loc tl hsp hdr hls hpc hpl hsm hp3 hl3 ht1 ht2 htl hloc
  refine sp_of fun pp T GT J hP n t G => ?_
  intro s
  obtain ⟨pF, pFD, pL, pA, pAD, W, sp⟩ := a
  dsimp only at hsp
  obtain ⟨hO, hT0⟩ := hP
  have hq : pcs[idx]? = some q := by have := congrArg (·[0]?) hdr; simpa using this
  have hdr' : pcs.drop (idx + 1) = rest := by have := congrArg (·.drop 1) hdr; simpa using this
  have hk1 : idx < pcs.length := (List.getElem?_eq_some_iff.mp hq).1
  have hal := hO.lens
  rw [List.length_map] at hal
  obtain ⟨a2, x2, o2, ha2, hx2, hm2, k2, j2, e2, rfl⟩ := hO.at (i := idx) (by rw [List.length_map]; exact hk1)
  obtain rfl : s2 q = x2 := by rw [List.getElem?_map, hq] at hx2; exact Option.some.inj hx2
  obtain ⟨T1, T2, hT⟩ := List.append_of_mem hm2
  have hq2 := hpc q (List.mem_of_getElem? hq)
  have hsm2 : smallP (ps ++ [s2 q]) := by
    refine ⟨by simp only [List.length_append, List.length_cons, List.length_nil]; (run_tac om), fun x hx => ?_⟩
    rcases List.mem_append.mp hx with hx | hx
    · exact hsm.2 x hx
    · obtain rfl : x = s2 q := by simpa using hx
      exact ⟨by have := hq2.1; simp only [s2, Str.length, List.size_toArray]; (run_tac om), by have := hq2.2; simp only [s2, Str.length, List.size_toArray]; (run_tac om)⟩
  have has : as.length ≤ 400 := by have := hT0.lens; (run_tac om)
  have hli : lines.length ≤ 500 := by have := congrArg List.length hls; simp only [List.length_map] at this; (run_tac om)
  obtain ⟨q1, q2⟩ := q
  simp only [List.length_cons] at hp3 hl3
  rcases hloc with ⟨rfl, rfl⟩ | ⟨b0, p0, rfl⟩
  · (
    (run_tac gR 4 65)
    (refine gp [0, 2, 1, 3, 4, 5, 6, 7, 8, 9] 10 [] 0 (by kernel_rfl) ?_; intro ns2 ts2 Gs2 s2; refine ko 2 (hNx pI pP idx (as0.map .ref) (.ref a2) (by rw [List.getElem?_map, ha2]; rfl)) (by kernel_rfl) ?_ ?_)
    · trivial
    intro r H' h
    (apply Rets.elim h; intro kx ax J)
    intro n1 t1 G1 s
    refine gbring 10 T _ T1 T2 hT (by kernel_rfl) fun nb tb Gb => ?_
    intro s
    (run_tac gR 88 50869276173957864844877849810509027729331083642924562423853848937485605943320471454459190096577)
    (refine gp [6, 7, 8, 9, 10, 11, 12, 3, 5, 4, 13] 14 [] 0 (by kernel_rfl) ?_; intro ns5 ts5 Gs5 s5)
    refine gput 10 T _ T1 T2 hT (by kernel_rfl) fun nq tq Gq => ?_
    intro s
    (refine gp [0, 1, 2, 3, 4, 5, 6, 7, 8, 9] 10 [] 0 (by kernel_rfl) ?_; intro ns6 ts6 Gs6 s6; refine kc 10 (hAc [(pI + 281, ⟨.t "list_iterator", none, .fields [.r (pP + 281), .i ((idx + 1 : Nat) : Int)]⟩), apFr n0 l pP ⟨pF, pFD, pL, pA, pAD, W, sp⟩ ([(.s sBlanks, .s ⟨⟨q1⟩⟩), (.s sPart, .s ⟨⟨q2⟩⟩)] ++ []), (pP + 281, ⟨.t "list", none, .seqV (as0.map .ref)⟩)] (by kernel_rfl) ⟨pF, pFD, pL, pA, pAD, W, sp⟩ as ps lines tb1 tb2 ls ⟨⟨q1⟩⟩ ⟨⟨q2⟩⟩ (argTok 1 (codeOf (‹Cf› : Cf).t)) (argTok 2 (codeOf (‹Cf› : Cf).t)) hsp hls hsm2 has hli ht1 ht2) (by kernel_rfl) ?_ ?_)
    · exact Prs0 hT0 (by kernel_rfl)
    rintro r H' ⟨as', lines', tb1', tb2', N, ht1', ht2', hT', hls', h⟩
    have e9 : dropC (‹Cf› : Cf).cells 10 = T := by kernel_rfl
    rw [e9] at hT' h
    obtain ⟨u, hu⟩ : ∃ u, u = appB W sp ls ps (⟨⟨q1⟩⟩, ⟨⟨q2⟩⟩) := ⟨_, rfl⟩
    have hu1 := @appB_small W sp ls ps (⟨⟨q1⟩⟩, ⟨⟨q2⟩⟩)
    dsimp only at hT' hls'
    rw [← hu] at hT' hls' hu1
    (apply Rets.elim h; intro ky ay J)
    intro n2 t2 G2 s
    (run_tac gR 1 0)
    (refine gp [7, 8, 9, 0, 1, 2, 3, 4, 5, 6] 10 [] 0 (by kernel_rfl) ?_; intro ns9 ts9 Gs9 s9; refine kaw (T := ((T ++ N))) (GT := GT) 10 ((hn n0 l pP pI (idx + 1) ⟨pF, pFD, pL, pA, pAD, W, sp⟩ pcs as0 as' u.2 lines' tb1' tb2' u.1 ([(.s sBlanks, .s ⟨⟨q1⟩⟩), (.s sPart, .s ⟨⟨q2⟩⟩)] ++ []) [] hsp hdr' hls' hpc hpl ⟨by (run_tac om), fun x hx => (hu1.2.2 x hx).elim (hsm.2 x) fun e => hsm2.2 x (by rw [e]; exact List.mem_append_right _ (List.mem_singleton.mpr rfl))⟩ (by (run_tac om)) (by (run_tac om)) ht1' ht2' htl (.inr ⟨_, _, rfl⟩))) (by kernel_rfl) ?_ ?_)
    · exact ⟨hO.sub fun _ h => List.mem_append_left _ h, hT'⟩
    rintro r H' ⟨as3, lines3, tb3, tb4, loc3, N3, g1, g2, g3, g4, g5, g6, g7⟩
    have e : appR W sp ((q1, q2) :: rest) (ls, ps) = appR W sp rest u := by rw [hu]; exact appR_cons W sp q1 q2 rest ls ps
    rw [List.append_assoc] at g3 g7
    refine ⟨as3, lines3, tb3, tb4, loc3, N ++ N3, g1, g2, ?_, ?_, g5, fun e => ?_, g7⟩
    · rw [e]; exact g3
    · rw [e]; exact g4
    · exact absurd (g6 e).1 (List.cons_ne_nil _ _))
  · rcases htl with rfl | ⟨tx0, r1, r2, r3, rfl⟩
    · (
      (run_tac gR 4 65)
      (refine gp [0, 2, 1, 3, 4, 5, 6, 7, 8, 9] 10 [] 0 (by kernel_rfl) ?_; intro ns12 ts12 Gs12 s12; refine ko 2 (hNx pI pP idx (as0.map .ref) (.ref a2) (by rw [List.getElem?_map, ha2]; rfl)) (by kernel_rfl) ?_ ?_)
      · trivial
      intro r H' h
      (apply Rets.elim h; intro kx ax J)
      intro n1 t1 G1 s
      refine gbring 10 T _ T1 T2 hT (by kernel_rfl) fun nb tb Gb => ?_
      intro s
      (run_tac gR 88 50869276173957864844877849810509027729331083642924562423853848937485605943320471454459190096577)
      (refine gp [6, 7, 8, 9, 10, 11, 12, 3, 5, 4, 13] 14 [] 0 (by kernel_rfl) ?_; intro ns15 ts15 Gs15 s15)
      refine gput 10 T _ T1 T2 hT (by kernel_rfl) fun nq tq Gq => ?_
      intro s
      (refine gp [0, 1, 2, 3, 4, 5, 6, 7, 8, 9] 10 [] 0 (by kernel_rfl) ?_; intro ns16 ts16 Gs16 s16; refine kc 10 (hAc [(pI + 281, ⟨.t "list_iterator", none, .fields [.r (pP + 281), .i ((idx + 1 : Nat) : Int)]⟩), apFr n0 l pP ⟨pF, pFD, pL, pA, pAD, W, sp⟩ ([(.s sBlanks, .s ⟨⟨q1⟩⟩), (.s sPart, .s ⟨⟨q2⟩⟩)] ++ []), (pP + 281, ⟨.t "list", none, .seqV (as0.map .ref)⟩)] (by kernel_rfl) ⟨pF, pFD, pL, pA, pAD, W, sp⟩ as ps lines tb1 tb2 ls ⟨⟨q1⟩⟩ ⟨⟨q2⟩⟩ (argTok 1 (codeOf (‹Cf› : Cf).t)) (argTok 2 (codeOf (‹Cf› : Cf).t)) hsp hls hsm2 has hli ht1 ht2) (by kernel_rfl) ?_ ?_)
      · exact Prs0 hT0 (by kernel_rfl)
      rintro r H' ⟨as', lines', tb1', tb2', N, ht1', ht2', hT', hls', h⟩
      have e9 : dropC (‹Cf› : Cf).cells 10 = T := by kernel_rfl
      rw [e9] at hT' h
      obtain ⟨u, hu⟩ : ∃ u, u = appB W sp ls ps (⟨⟨q1⟩⟩, ⟨⟨q2⟩⟩) := ⟨_, rfl⟩
      have hu1 := @appB_small W sp ls ps (⟨⟨q1⟩⟩, ⟨⟨q2⟩⟩)
      dsimp only at hT' hls'
      rw [← hu] at hT' hls' hu1
      (apply Rets.elim h; intro ky ay J)
      intro n2 t2 G2 s
      (run_tac gR 1 0)
      (refine gp [7, 8, 9, 0, 1, 2, 3, 4, 5, 6] 10 [] 0 (by kernel_rfl) ?_; intro ns19 ts19 Gs19 s19; refine kaw (T := ((T ++ N))) (GT := GT) 10 ((hn n0 l pP pI (idx + 1) ⟨pF, pFD, pL, pA, pAD, W, sp⟩ pcs as0 as' u.2 lines' tb1' tb2' u.1 ([(.s sBlanks, .s ⟨⟨q1⟩⟩), (.s sPart, .s ⟨⟨q2⟩⟩)] ++ []) [] hsp hdr' hls' hpc hpl ⟨by (run_tac om), fun x hx => (hu1.2.2 x hx).elim (hsm.2 x) fun e => hsm2.2 x (by rw [e]; exact List.mem_append_right _ (List.mem_singleton.mpr rfl))⟩ (by (run_tac om)) (by (run_tac om)) ht1' ht2' (.inl rfl) (.inr ⟨_, _, rfl⟩))) (by kernel_rfl) ?_ ?_)
      · exact ⟨hO.sub fun _ h => List.mem_append_left _ h, hT'⟩
      rintro r H' ⟨as3, lines3, tb3, tb4, loc3, N3, g1, g2, g3, g4, g5, g6, g7⟩
      have e : appR W sp ((q1, q2) :: rest) (ls, ps) = appR W sp rest u := by rw [hu]; exact appR_cons W sp q1 q2 rest ls ps
      rw [List.append_assoc] at g3 g7
      refine ⟨as3, lines3, tb3, tb4, loc3, N ++ N3, g1, g2, ?_, ?_, g5, fun e => ?_, g7⟩
      · rw [e]; exact g3
      · rw [e]; exact g4
      · exact absurd (g6 e).1 (List.cons_ne_nil _ _))
    · (
      (run_tac gR 4 65)
      (refine gp [0, 2, 1, 3, 4, 5, 6, 7, 8, 9] 10 [] 0 (by kernel_rfl) ?_; intro ns22 ts22 Gs22 s22; refine ko 2 (hNx pI pP idx (as0.map .ref) (.ref a2) (by rw [List.getElem?_map, ha2]; rfl)) (by kernel_rfl) ?_ ?_)
      · trivial
      intro r H' h
      (apply Rets.elim h; intro kx ax J)
      intro n1 t1 G1 s
      refine gbring 10 T _ T1 T2 hT (by kernel_rfl) fun nb tb Gb => ?_
      intro s
      (run_tac gR 88 50869276173957864844877849810509027729331083642924562423853848937485605943320471454459190096577)
      (refine gp [6, 7, 8, 9, 10, 11, 12, 3, 5, 4, 13] 14 [] 0 (by kernel_rfl) ?_; intro ns25 ts25 Gs25 s25)
      refine gput 10 T _ T1 T2 hT (by kernel_rfl) fun nq tq Gq => ?_
      intro s
      (refine gp [0, 1, 2, 3, 4, 5, 6, 7, 8, 9] 10 [] 0 (by kernel_rfl) ?_; intro ns26 ts26 Gs26 s26; refine kc 10 (hAc [(pI + 281, ⟨.t "list_iterator", none, .fields [.r (pP + 281), .i ((idx + 1 : Nat) : Int)]⟩), apFr n0 l pP ⟨pF, pFD, pL, pA, pAD, W, sp⟩ ([(.s sBlanks, .s ⟨⟨q1⟩⟩), (.s sPart, .s ⟨⟨q2⟩⟩)] ++ [(.s sText, .s tx0), (.s sDue, .r (r1 + 281)), (.s sAt, .r (r2 + 281)), (.s sTold, .r (r3 + 281))]), (pP + 281, ⟨.t "list", none, .seqV (as0.map .ref)⟩)] (by kernel_rfl) ⟨pF, pFD, pL, pA, pAD, W, sp⟩ as ps lines tb1 tb2 ls ⟨⟨q1⟩⟩ ⟨⟨q2⟩⟩ (argTok 1 (codeOf (‹Cf› : Cf).t)) (argTok 2 (codeOf (‹Cf› : Cf).t)) hsp hls hsm2 has hli ht1 ht2) (by kernel_rfl) ?_ ?_)
      · exact Prs0 hT0 (by kernel_rfl)
      rintro r H' ⟨as', lines', tb1', tb2', N, ht1', ht2', hT', hls', h⟩
      have e9 : dropC (‹Cf› : Cf).cells 10 = T := by kernel_rfl
      rw [e9] at hT' h
      obtain ⟨u, hu⟩ : ∃ u, u = appB W sp ls ps (⟨⟨q1⟩⟩, ⟨⟨q2⟩⟩) := ⟨_, rfl⟩
      have hu1 := @appB_small W sp ls ps (⟨⟨q1⟩⟩, ⟨⟨q2⟩⟩)
      dsimp only at hT' hls'
      rw [← hu] at hT' hls' hu1
      (apply Rets.elim h; intro ky ay J)
      intro n2 t2 G2 s
      (run_tac gR 1 0)
      (refine gp [7, 8, 9, 0, 1, 2, 3, 4, 5, 6] 10 [] 0 (by kernel_rfl) ?_; intro ns29 ts29 Gs29 s29; refine kaw (T := ((T ++ N))) (GT := GT) 10 ((hn n0 l pP pI (idx + 1) ⟨pF, pFD, pL, pA, pAD, W, sp⟩ pcs as0 as' u.2 lines' tb1' tb2' u.1 ([(.s sBlanks, .s ⟨⟨q1⟩⟩), (.s sPart, .s ⟨⟨q2⟩⟩)] ++ [(.s sText, .s tx0), (.s sDue, .r (r1 + 281)), (.s sAt, .r (r2 + 281)), (.s sTold, .r (r3 + 281))]) [(.s sText, .s tx0), (.s sDue, .r (r1 + 281)), (.s sAt, .r (r2 + 281)), (.s sTold, .r (r3 + 281))] hsp hdr' hls' hpc hpl ⟨by (run_tac om), fun x hx => (hu1.2.2 x hx).elim (hsm.2 x) fun e => hsm2.2 x (by rw [e]; exact List.mem_append_right _ (List.mem_singleton.mpr rfl))⟩ (by (run_tac om)) (by (run_tac om)) ht1' ht2' (.inr ⟨_, _, _, _, rfl⟩) (.inr ⟨_, _, rfl⟩))) (by kernel_rfl) ?_ ?_)
      · exact ⟨hO.sub fun _ h => List.mem_append_left _ h, hT'⟩
      rintro r H' ⟨as3, lines3, tb3, tb4, loc3, N3, g1, g2, g3, g4, g5, g6, g7⟩
      have e : appR W sp ((q1, q2) :: rest) (ls, ps) = appR W sp rest u := by rw [hu]; exact appR_cons W sp q1 q2 rest ls ps
      rw [List.append_assoc] at g3 g7
      refine ⟨as3, lines3, tb3, tb4, loc3, N ++ N3, g1, g2, ?_, ?_, g5, fun e => ?_, g7⟩
      · rw [e]; exact g3
      · rw [e]; exact g4
      · exact absurd (g6 e).1 (List.cons_ne_nil _ _))
  run_tac sq
set_option maxHeartbeats 0 in
theorem ap_z : ApOk (cx w b1 b2 h₀ d os hk hN) (W2 w b1 b2).params [] := by
  run_tac sq0
  intro n0 l pP pI idx a pcs as0 as ps lines tb1 tb2 ls loc tl hsp hdr hls hpc hpl hsm hp3 hl3 ht1 ht2 htl hloc
  refine sp_of fun pp T GT J hP n t G => ?_
  intro s
  obtain ⟨pF, pFD, pL, pA, pAD, W, sp⟩ := a
  dsimp only at hsp
  obtain ⟨hO, hT0⟩ := hP
  have hal := hO.lens
  rw [List.length_map] at hal
  have hno : (as0.map PySem.Value.ref)[idx]? = none := by
    rw [List.drop_eq_nil_iff] at hdr
    rw [List.getElem?_eq_none_iff, List.length_map]
    (run_tac om)
  rcases hloc with ⟨rfl, rfl⟩ | ⟨b0, p0, rfl⟩
  · (
    (run_tac gR 8 50597953)
    (run_tac Mine.gxT 0)
    intro y' he
    obtain rfl : y' = none := by rw [← he]; simpa using hno
    intro s
    (run_tac gR 9 4161)
    (refine gp [3, 4, 5, 6, 7, 8, 9, 10, 11] 12 [] 0 (by kernel_rfl) ?_; intro ns3 ts3 Gs3 s3)
    refine ke (by kernel_rfl) ?_
    refine ⟨as, lines, tb1, tb2, [], [], ht1, ht2, ?_, hls, .inl ⟨rfl, rfl⟩, fun e => ⟨e, rfl⟩, ?_⟩
    · rw [List.append_nil]; exact hT0
    · rw [List.append_nil]; exact flows 9 (by kernel_rfl))
  · rcases htl with rfl | ⟨tx0, r1, r2, r3, rfl⟩
    · (
      (run_tac gR 8 50597953)
      (run_tac Mine.gxT 0)
      intro y' he
      obtain rfl : y' = none := by rw [← he]; simpa using hno
      intro s
      (run_tac gR 9 4161)
      (refine gp [3, 4, 5, 6, 7, 8, 9, 10, 11] 12 [] 0 (by kernel_rfl) ?_; intro ns6 ts6 Gs6 s6)
      refine ke (by kernel_rfl) ?_
      refine ⟨as, lines, tb1, tb2, [(.s sBlanks, .s b0), (.s sPart, .s p0)], [], ht1, ht2, ?_, hls, .inr ⟨b0, p0, rfl⟩, fun e => ⟨e, rfl⟩, ?_⟩
      · rw [List.append_nil]; exact hT0
      · rw [List.append_nil]; exact flows 9 (by kernel_rfl))
    · (
      (run_tac gR 8 50597953)
      (run_tac Mine.gxT 0)
      intro y' he
      obtain rfl : y' = none := by rw [← he]; simpa using hno
      intro s
      (run_tac gR 9 4161)
      (refine gp [3, 4, 5, 6, 7, 8, 9, 10, 11] 12 [] 0 (by kernel_rfl) ?_; intro ns9 ts9 Gs9 s9)
      refine ke (by kernel_rfl) ?_
      refine ⟨as, lines, tb1, tb2, [(.s sBlanks, .s b0), (.s sPart, .s p0), (.s sText, .s tx0), (.s sDue, .r (r1 + 281)), (.s sAt, .r (r2 + 281)), (.s sTold, .r (r3 + 281))], [], ht1, ht2, ?_, hls, .inr ⟨b0, p0, rfl⟩, fun e => ⟨e, rfl⟩, ?_⟩
      · rw [List.append_nil]; exact hT0
      · rw [List.append_nil]; exact flows 9 (by kernel_rfl))
  run_tac sq
set_option maxHeartbeats 0 in
theorem sat_t : SAt (cx w b1 b2 h₀ d os hk hN) := by
  run_tac sq0
  (
  intro cs k c i t j hi hk hl9
  refine sp_of fun p T GT J hP n t G => ?_
  intro s
  have hl : k < cs.length := (List.getElem?_eq_some_iff.mp hk).1
  (run_tac gR 0 0)
  (run_tac Mine.gxT 0)
  intro z _
  cases z with
  | isTrue h =>
    rw [Bool.or_eq_true, decide_eq_true_eq, decide_eq_true_eq] at h
    (run_tac om)
  | isFalse h =>
  intro s
  (run_tac gR 0 0)
  (run_tac Mine.gxT 0)
  intro z hz
  obtain rfl : z = some c := by
    rw [← hz]
    have e2 : seqIndex? i (⟨⟨cs⟩⟩ : Str).length = some k := by
      subst hi
      unfold seqIndex?
      simp [Str.length]
      (run_tac om)
    rw [e2]
    simpa using hk
  intro s
  (run_tac gR 1 0)
  (refine gp [] 0 [] 0 (by kernel_rfl) ?_; intro ns4 ts4 Gs4 s4)
  refine ke (by kernel_rfl) ?_
  exact rets 0 (by kernel_rfl)
  )
  run_tac sq
set_option maxHeartbeats 0 in
theorem ck_s (hRn : RNu (cx w b1 b2 h₀ d os hk hN)) (hLc : LcI (cx w b1 b2 h₀ d os hk hN)) (hSa : SAt (cx w b1 b2 h₀ d os hk hN)) (hAp : AppL (cx w b1 b2 h₀ d os hk hN)) (c : Nat) (rest : List Nat) (hn : CkOk (cx w b1 b2 h₀ d os hk hN) (W2 w b1 b2).params rest) : CkOk (cx w b1 b2 h₀ d os hk hN) (W2 w b1 b2).params (c :: rest) := by
  run_tac sq0
  intro pI pA pCd n0 pC k ln cs ys cv loc hdr hcs hyl hl9 hloc
  refine sp_of fun p T GT J hP n t G => ?_
  intro s
  obtain ⟨hk, hdr'⟩ := at_of hdr
  rcases hloc with rfl | ⟨v0, rfl⟩ <;> (
    (run_tac gR 4 65)
    (refine gp [0, 1, 2, 3, 4, 5] 6 [] 0 (by kernel_rfl) ?_; intro ns6 ts6 Gs6 s6; refine ko 1 (hRn pI (k : Int) ((k + 1 : Nat) : Int) rest.length rfl) (by kernel_rfl) ?_ ?_)
    · trivial
    intro r H' h
    (apply Rets.elim h; intro k9 a9 J)
    intro n1 t1 G1 s
    (run_tac gR 17 26807123062976)
    (refine gp [5, 0, 1, 2, 3, 4] 6 [] 0 (by kernel_rfl) ?_; intro ns9 ts9 Gs9 s9; refine ko 1 (hLc pC cs cv (k : Int) (argTok 1 (codeOf (‹Cf› : Cf).t)) hcs) (by kernel_rfl) ?_ ?_)
    · trivial
    intro r H' h
    obtain ⟨bb, hbb⟩ : ∃ b, b = decide ((k : Int) ∈ cv) := ⟨_, rfl⟩
    rw [← hbb] at h
    (apply Rets.elim h; intro k8 a8 J)
    intro n2 t2 G2 s
    cases bb with
    | true =>
      (run_tac gR 8 261)
      (refine gp [0, 1, 2, 3, 4, 5] 6 [] 0 (by kernel_rfl) ?_; intro ns12 ts12 Gs12 s12; refine ko 0 (hSa ln k c (k : Int) (argTok 0 (codeOf (‹Cf› : Cf).t)) (argTok 1 (codeOf (‹Cf› : Cf).t)) rfl hk (by (run_tac om))) (by kernel_rfl) ?_ ?_)
      · trivial
      intro r H' h
      (apply Rets.elim h; intro k7 a7 J)
      intro n3 t3 G3 s
      (run_tac gR 9 3)
      (refine gp [2, 0, 1, 3, 4, 5] 6 [] 0 (by kernel_rfl) ?_; intro ns15 ts15 Gs15 s15; refine ko 1 (hAp pA ys (.str ⟨⟨[10, c]⟩⟩ (argTok 1 (codeOf (‹Cf› : Cf).t))) (by simp only [List.length_cons] at hyl; (run_tac om))) (by kernel_rfl) ?_ ?_)
      · trivial
      intro r H' h
      obtain ⟨w0, hw0⟩ : ∃ w0 : PySem.Value, w0 = .str ⟨⟨[10, c]⟩⟩ (argTok 1 (codeOf (‹Cf› : Cf).t)) := ⟨_, rfl⟩
      have hv0 : vv w0 = VV.s ⟨⟨[10, c]⟩⟩ := by rw [hw0]; rfl
      rw [← hw0] at h
      (apply Rets.elim h; intro k6 a6 J)
      intro n4 t4 G4 s
      (run_tac gR 1 0)
      (refine gp [2, 0, 3, 4, 5, 1] 6 [] 0 (by kernel_rfl) ?_; intro ns18 ts18 Gs18 s18; refine kaw (T := (T)) (GT := GT) 6 ((hn pI pA pCd n0 pC (k + 1) ln cs (ys ++ [w0]) cv [(.s sK, .i (k : Int))] hdr' hcs (by simp only [List.length_cons, List.length_append, List.length_nil] at hyl ⊢; (run_tac om)) hl9 (.inr ⟨_, rfl⟩))) (by kernel_rfl) ?_ ?_)
      · trivial
      rintro r H' ⟨ys', loc', h1, h2, h3⟩
      exact ⟨ys', loc', h1.trans (ck_yes (of_decide_eq_true hbb.symm) hv0), .inr (h2.elim (fun h => ⟨_, h.1⟩) id), h3⟩
    | false =>
      (run_tac gR 8 261)
      (refine gp [0, 1, 2, 3, 4, 5] 6 [] 0 (by kernel_rfl) ?_; intro ns21 ts21 Gs21 s21; refine ko 0 (hSa ln k c (k : Int) (argTok 0 (codeOf (‹Cf› : Cf).t)) (argTok 1 (codeOf (‹Cf› : Cf).t)) rfl hk (by (run_tac om))) (by kernel_rfl) ?_ ?_)
      · trivial
      intro r H' h
      (apply Rets.elim h; intro k7 a7 J)
      intro n3 t3 G3 s
      (run_tac gR 9 3)
      (refine gp [2, 0, 1, 3, 4, 5] 6 [] 0 (by kernel_rfl) ?_; intro ns24 ts24 Gs24 s24; refine ko 1 (hAp pA ys (.str ⟨⟨[c]⟩⟩ (argTok 1 (codeOf (‹Cf› : Cf).t))) (by simp only [List.length_cons] at hyl; (run_tac om))) (by kernel_rfl) ?_ ?_)
      · trivial
      intro r H' h
      obtain ⟨w0, hw0⟩ : ∃ w0 : PySem.Value, w0 = .str ⟨⟨[c]⟩⟩ (argTok 1 (codeOf (‹Cf› : Cf).t)) := ⟨_, rfl⟩
      have hv0 : vv w0 = VV.s ⟨⟨[c]⟩⟩ := by rw [hw0]; rfl
      rw [← hw0] at h
      (apply Rets.elim h; intro k6 a6 J)
      intro n4 t4 G4 s
      (run_tac gR 1 0)
      (refine gp [2, 0, 3, 4, 5, 1] 6 [] 0 (by kernel_rfl) ?_; intro ns27 ts27 Gs27 s27; refine kaw (T := (T)) (GT := GT) 6 ((hn pI pA pCd n0 pC (k + 1) ln cs (ys ++ [w0]) cv [(.s sK, .i (k : Int))] hdr' hcs (by simp only [List.length_cons, List.length_append, List.length_nil] at hyl ⊢; (run_tac om)) hl9 (.inr ⟨_, rfl⟩))) (by kernel_rfl) ?_ ?_)
      · trivial
      rintro r H' ⟨ys', loc', h1, h2, h3⟩
      exact ⟨ys', loc', h1.trans (ck_no (of_decide_eq_false hbb.symm) hv0), .inr (h2.elim (fun h => ⟨_, h.1⟩) id), h3⟩)
  run_tac sq
set_option maxHeartbeats 0 in
theorem ck_z : CkOk (cx w b1 b2 h₀ d os hk hN) (W2 w b1 b2).params [] := by
  run_tac sq0
  intro pI pA pCd n0 pC k ln cs ys cv loc hdr hcs hyl hl9 hloc
  refine sp_of fun p T GT J hP n t G => ?_
  intro s
  have hloc0 := hloc
  rcases hloc with rfl | ⟨v0, rfl⟩ <;> (
    (run_tac gR 14 1090785345)
    (refine gp [3, 4, 5, 6, 7] 8 [] 0 (by kernel_rfl) ?_; intro ns54 ts54 Gs54 s54)
    refine ke (by kernel_rfl) ?_
    exact ⟨ys, _, by simp [ckL], .inl ⟨rfl, rfl⟩, flows 5 (by kernel_rfl)⟩)
  run_tac sq
set_option maxHeartbeats 0 in
theorem to_s (hNx : LNx (cx w b1 b2 h₀ d os hk hN)) (hG : GtOk (cx w b1 b2 h₀ d os hk hN) (W2 w b1 b2).params) (hAp : AppL (cx w b1 b2 h₀ d os hk hN)) (x : List Nat × Int) (rest : List (List Nat × Int)) (hn : ToOk (cx w b1 b2 h₀ d os hk hN) (W2 w b1 b2).params rest) : ToOk (cx w b1 b2 h₀ d os hk hN) (W2 w b1 b2).params (x :: rest) := by
  run_tac sq0
  intro pI pA pCd n0 pD idx a tx q q' ds td E loc hds hrd htx hq htd hdl hloc
  refine sp_of fun p T GT J hP n t G => ?_
  intro s
  obtain ⟨pos, ln⟩ := q
  obtain ⟨tok, lno⟩ := x
  obtain ⟨hr1, hr2, hr3, hr4⟩ := hrd
  dsimp only at hr1 hr2 hr3 hr4 hq
  obtain ⟨d0, hd0⟩ : ∃ d0, ds[idx]? = some d0 := by
    rw [List.length_cons] at hds
    exact ⟨ds[idx]'(by (run_tac om)), List.getElem?_eq_getElem _⟩
  rcases hloc with rfl | ⟨v0, rfl⟩ <;> (
    (run_tac gR 4 65)
    (refine gp [0, 4, 1, 2, 3, 5, 6, 7, 8, 9, 10, 11, 12, 13, 14] 15 [] 0 (by kernel_rfl) ?_; intro ns2 ts2 Gs2 s2; refine ko 2 (hNx pI pD idx (ds.map .ref) (.ref d0) (by rw [List.getElem?_map, hd0]; rfl)) (by kernel_rfl) ?_ ?_)
    · trivial
    intro r H' h
    (apply Rets.elim h; intro k9 a9 J)
    intro n1 t1 G1 s
    (run_tac gR 30 1992746743601277920031919188492544)
    (refine gp [5, 6, 7, 8, 9, 10, 11, 12, 13, 14, 0, 1, 2, 3, 4] 15 [] 0 (by kernel_rfl) ?_; intro ns5 ts5 Gs5 s5; refine kc 10 (hG a tx pos ln htx hq) (by kernel_rfl) ?_ ?_)
    · trivial
    intro r H' h
    rw [hr1, hr2] at h
    (apply Rets.elim h; intro k8 a8 J)
    intro n2 t2 G2 s
    (run_tac gR 23 4235967418877688516968719)
    (refine gp [13, 0, 1, 2, 3, 4, 5, 6, 7, 8, 9, 10, 11, 12, 14, 15] 16 [] 0 (by kernel_rfl) ?_; intro ns8 ts8 Gs8 s8; refine ko 1 (hAp pA (td.map .ref) (.ref (n2 + 281)) (by simp only [List.length_cons, List.length_map] at htd ⊢; (run_tac om))) (by kernel_rfl) ?_ ?_)
    · trivial
    intro r H' h
    (apply Rets.elim h; intro k7 a7 J)
    intro n3 t3 G3 s
    (run_tac gR 1 0)
    (refine gp [12, 0, 14, 15, 13, 2, 3, 4, 5, 6, 7, 8, 9, 10, 11, 1] 16 [] 0 (by kernel_rfl) ?_; intro ns11 ts11 Gs11 s11)
    refine gview 1 ⟨.t "list", none, .seqV ((td ++ [n2 + 281]).map .ref)⟩ ⟨.t "list", none, .seqV (td.map .ref ++ [.ref (n2 + 281)])⟩ (by kernel_rfl) (by rw [List.map_append]; rfl) fun jv J => ?_
    intro s
    obtain ⟨o, ho⟩ : ∃ o : Obj, o = { cls := .type "tuple", data := .seq #[.str ⟨⟨tok⟩⟩ (strTok (seqAt (‹Cf› : Cf).cells 15) 0), .int lno (intTok (seqAt (‹Cf› : Cf).cells 15) 1)] (epAt (‹Cf› : Cf).cells 15) } := ⟨_, rfl⟩
    refine gtail 15 (n2 + 281, o) T (by rw [ho]; kernel_rfl) fun nr tr Gr => ?_
    intro s
    (refine gp [0, 1, 2, 3, 4, 5, 6, 7, 8, 9, 10, 11, 12, 13, 14] 15 [] 0 (by kernel_rfl) ?_; intro ns12 ts12 Gs12 s12; refine kaw (T := ((T ++ [(n2 + 281, o)]))) (GT := GT) 15 ((hn pI pA pCd n0 pD (idx + 1) a tx (pos + (outer (restAt tx pos)).cons, lno) q' ds (td ++ [n2 + 281]) (E ++ [(tok, lno)]) [(.s sEntry, .r d0)] (by simp only [List.length_cons] at hds ⊢; (run_tac om)) hr4 htx hr3 (by simp only [List.length_cons, List.length_append, List.length_nil] at htd ⊢; (run_tac om)) hdl (.inr ⟨_, rfl⟩))) (by kernel_rfl) ?_ ?_)
    · exact (hP.sub fun _ h => List.mem_append_left _ h).snoc (List.mem_append_right _ (List.mem_singleton.mpr rfl)) ⟨_, _, _, ho⟩
    rintro r H' ⟨td', loc', N, h1, h2, h3⟩
    rw [List.append_assoc] at h1 h3
    rw [List.append_assoc] at h1
    exact ⟨td', loc', _, h1, .inr (h2.elim (fun h => ⟨_, h.1⟩) id), h3⟩)
  run_tac sq
set_option maxHeartbeats 0 in
theorem to_z : ToOk (cx w b1 b2 h₀ d os hk hN) (W2 w b1 b2).params [] := by
  run_tac sq0
  intro pI pA pCd n0 pD idx a tx q q' ds td E loc hds hrd htx hq htd hdl hloc
  refine sp_of fun p T GT J hP n t G => ?_
  intro s
  obtain rfl : q' = q := hrd
  obtain ⟨pos, ln⟩ := q'
  have hno : (ds.map PySem.Value.ref)[idx]? = none := by
    rw [List.getElem?_eq_none_iff, List.length_map]
    simp only [List.length_nil] at hds
    (run_tac om)
  have hloc0 := hloc
  rcases hloc with rfl | ⟨v0, rfl⟩ <;> (
    (run_tac gR 8 84152385)
    (run_tac Mine.gxT 0)
    intro y' he
    obtain rfl : y' = none := by rw [← he]; simpa using hno
    intro s
    (run_tac gR 8 4161)
    (refine gp [3, 4, 5, 6, 7, 8, 9, 10, 11, 12, 13, 14, 15, 16] 17 [] 0 (by kernel_rfl) ?_; intro ns29 ts29 Gs29 s29)
    refine ke (by kernel_rfl) ?_
    refine ⟨td, _, [], ?_, .inl ⟨rfl, rfl⟩, ?_⟩
    · rw [List.append_nil, List.append_nil]; exact hP
    · rw [List.append_nil]; exact flows 14 (by kernel_rfl))
  run_tac sq
set_option maxHeartbeats 0 in
theorem ckS_t (hn : ∀ l, CkOk (cx w b1 b2 h₀ d os hk hN) (W2 w b1 b2).params l) : CkS (cx w b1 b2 h₀ d os hk hN) (W2 w b1 b2).params := by
  run_tac sq0
  intro pI pA pCd n0 pC ln cs cv hcs hl hl0
  refine sp_of fun p T GT J hP n t G => ?_
  intro s
  cases b1
  · (run_tac gR 11 1090785344)
    (refine gp [0, 1, 2, 3, 4, 5] 6 [] 0 (by kernel_rfl) ?_; intro ns2 ts2 Gs2 s2; refine kaw (T := (T)) (GT := GT) 6 ((hn ln pI pA pCd n0 pC 0 ln cs [] cv [] rfl hcs (by simp only [List.length_nil]; (run_tac om)) hl (.inl rfl))) (by kernel_rfl) ?_ ?_)
    · trivial
    rintro r H' ⟨ys', loc', h1, h2, h3⟩
    exact ⟨ys', loc', h1, h2.elim (fun h => absurd h.2 hl0) id, h3⟩
  · (run_tac gR 1 0)
    (refine gp [0, 1, 2, 3, 4, 5] 6 [] 0 (by kernel_rfl) ?_; intro ns5 ts5 Gs5 s5; refine kaw (T := (T)) (GT := GT) 6 ((hn ln pI pA pCd n0 pC 0 ln cs [] cv [] rfl hcs (by simp only [List.length_nil]; (run_tac om)) hl (.inl rfl))) (by kernel_rfl) ?_ ?_)
    · trivial
    rintro r H' ⟨ys', loc', h1, h2, h3⟩
    exact ⟨ys', loc', h1, h2.elim (fun h => absurd h.2 hl0) id, h3⟩
  run_tac sq
set_option maxHeartbeats 0 in
theorem toS_t (hn : ∀ l, ToOk (cx w b1 b2 h₀ d os hk hN) (W2 w b1 b2).params l) : ToS (cx w b1 b2 h₀ d os hk hN) (W2 w b1 b2).params := by
  run_tac sq0
  intro pI pA pCd n0 pD a tx q q' ds rest hds hrd htx hq hdl hr0
  refine sp_of fun p T GT J hP n t G => ?_
  intro s
  cases b1
  · (run_tac gR 11 1090785344)
    (refine gp [0, 1, 2, 3, 4, 5, 6, 7, 8, 9, 10, 11, 12, 13, 14] 15 [] 0 (by kernel_rfl) ?_; intro ns8 ts8 Gs8 s8; refine kaw (T := (T)) (GT := GT) 15 ((hn rest pI pA pCd n0 pD 0 a tx q q' ds [] [] [] (by (run_tac om)) hrd htx hq (by simp only [List.length_nil]; (run_tac om)) hdl (.inl rfl))) (by kernel_rfl) ?_ ?_)
    · exact .nil
    rintro r H' ⟨td', loc', N, h1, h2, h3⟩
    exact ⟨td', loc', N, h1, h2.elim (fun h => absurd h.2 hr0) id, h3⟩
  · (run_tac gR 1 0)
    (refine gp [0, 1, 2, 3, 4, 5, 6, 7, 8, 9, 10, 11, 12, 13, 14] 15 [] 0 (by kernel_rfl) ?_; intro ns11 ts11 Gs11 s11; refine kaw (T := (T)) (GT := GT) 15 ((hn rest pI pA pCd n0 pD 0 a tx q q' ds [] [] [] (by (run_tac om)) hrd htx hq (by simp only [List.length_nil]; (run_tac om)) hdl (.inl rfl))) (by kernel_rfl) ?_ ?_)
    · exact .nil
    rintro r H' ⟨td', loc', N, h1, h2, h3⟩
    exact ⟨td', loc', N, h1, h2.elim (fun h => absurd h.2 hr0) id, h3⟩
  run_tac sq
set_option maxHeartbeats 0 in
theorem lp0_s {wl : List (List Nat × Int)} {ln : List Nat} {W : Int} (hAi : AiOk (cx w b1 b2 h₀ d os hk hN)) (hAp : ∀ rest, ApOk (cx w b1 b2 h₀ d os hk hN) (W2 w b1 b2).params rest) (hNl : NlBOk (cx w b1 b2 h₀ d os hk hN)) (hCu : CutsOk (cx w b1 b2 h₀ d os hk hN)) (hCk : CkS (cx w b1 b2 h₀ d os hk hN) (W2 w b1 b2).params) (hLx1 : Lx1Ok (cx w b1 b2 h₀ d os hk hN) (W2 w b1 b2).params) (hwl1 : ∀ q ∈ wl, q.1.length ≤ 4 ∧ q.1 ≠ [] ∧ ∀ c ∈ q.1, c < 128) (hwl2 : wl.length ≤ 50) (hTo : ToS (cx w b1 b2 h₀ d os hk hN) (W2 w b1 b2).params) (hG : GtOk (cx w b1 b2 h₀ d os hk hN) (W2 w b1 b2).params) (hNe : TdNe (cx w b1 b2 h₀ d os hk hN)) (hDu : DueV (cx w b1 b2 h₀ d os hk hN))
    (hLT : LawT W 32 ln wl) (hok : okPcs (piecesOf ln)) (hl60 : ln.length ≤ 60) (hpn : piecesOf ln ≠ []) (hl0 : ln ≠ []) (hp3 : (piecesOf ln).length ≤ 300) (hn : LpOk (cx w b1 b2 h₀ d os hk hN) (W2 w b1 b2).params wl ln W 1 true) : LpOk (cx w b1 b2 h₀ d os hk hN) (W2 w b1 b2).params wl ln W 0 false := by
  run_tac sq0
  (
  intro S tb1 tb2 g hSW hg hws hms ht1 ht2
  refine sp_of fun p T GT J hP n t G => ?_
  intro s
  obtain ⟨n0, l, pW, pM, pP, pI, pT, W', as0, ws, ms, vs, ve⟩ := S
  dsimp only at hSW hws hms hP
  obtain rfl : W' = W := hSW
  cases g with
  | some g => cases hg
  | none =>
  (run_tac gR 298 14938296421658661581690115753864399357862562921697284947398847582764423494747176394851041607085269038541398695380342510174840474908315016756731092878744543935124011533937041490399259252554956034351196989698329380667794700671316518638515418817269432230431414093719452143706653202810433876349852904125857726102159598659327057395165269469841068097)
  (refine gp [0, 1, 2, 3, 4, 5, 6, 7, 8, 9, 10, 11, 12, 13, 14, 15, 16, 17, 18, 19, 20] 21 [] 0 (by kernel_rfl) ?_; intro ns2 ts2 Gs2 s2; refine kc 2 (hAi (n + 5) (n + 4) [.int 0 (argTok 1 (codeOf (‹Cf› : Cf).t))] (.inr ⟨_, rfl⟩)) (by kernel_rfl) ?_ ?_)
  · trivial
  intro r H' h
  (apply Rets.elim h; intro k9 a9 J)
  intro n1 t1 G1 s
  (run_tac gR 52 7492030918537346769477150197367488819475433652548)
  (refine gp [0, 17, 18, 1, 2, 19, 20, 3, 6, 5, 7, 8, 9, 10, 11, 12, 13, 14, 15, 16, 21] 22 [] 0 (by kernel_rfl) ?_; intro ns5 ts5 Gs5 s5)
  (refine gp [0, 1, 2, 3, 4, 5, 6, 7, 8, 9, 10, 11, 12, 13, 14, 15, 16, 17, 18, 19, 20] 21 [] 0 (by kernel_rfl) ?_; intro ns6 ts6 Gs6 s6; refine kc 21 ((ap_v (hAp (piecesOf ln)) (lwA ⟨n0, l, pW, pM, pP, pI, pT, W', as0, ws, ms, vs, ve⟩ ln 1 none none ++ tabO none) (by kernel_rfl) n0 l pP n1 0 ⟨n + 1, n, n + 3, n + 5, n + 4, W', 32⟩ (piecesOf ln) as0 [] [] [] tb1 tb2 [] [] [] (.inl rfl) rfl rfl (fun q hq => hok.2.2.2 q hq) hok.2.2.1 ⟨by decide, by simp⟩ (by simp only [List.length_nil]; (run_tac om)) (by simp only [List.length_nil]; (run_tac om)) ht1 ht2 (.inl rfl) (.inl ⟨rfl, rfl⟩))) (by kernel_rfl) ?_ ?_)
  · have e9 : dropC (‹Cf› : Cf).cells 21 = T := by kernel_rfl
    rw [e9]
    exact ⟨hP, .nil⟩
  rintro r H' ⟨as1, lines1, tb3, tb4, loc1, N1, ht3, ht4, hT1, hls1, hloc1, hne1, h⟩
  have e9 : dropC (‹Cf› : Cf).cells 21 = T := by kernel_rfl
  rw [e9] at hT1 h
  obtain ⟨u, hu⟩ : ∃ u, u = appR W' 32 (piecesOf ln) ([], []) := ⟨_, rfl⟩
  have hLs := hLT.sm
  have hL1 := hLT.l1
  have hL2 := hLT.l2
  obtain ⟨ps, x, y, hL3, hL4⟩ := hLT.last
  have hL5 := hLT.nw
  have hL6 := hLT.sz
  have hL7 := hLT.tx
  rw [← hu] at hLs hL1 hL2 hL3 hL5 hL6 hL7
  change Tups (T ++ N1) as1 (appR W' 32 (piecesOf ln) ([], [])).2 at hT1
  change lines1.map vv = (appR W' 32 (piecesOf ln) ([], [])).1.map VV.s at hls1
  rw [← hu] at hT1 hls1
  obtain ⟨ls, qs⟩ := u
  dsimp only at hLs hL1 hL2 hL3 hL5 hL6 hL7 hT1 hls1
  subst hL3
  rcases hloc1 with ⟨rfl, _⟩ | ⟨b1', p1, rfl⟩
  · exact absurd (hne1 rfl).2 hpn
  (apply Flows.elim h; intro J)
  intro n2 t2 G2 s
  (run_tac gR 23 10077605632469678396599697985)
  (refine gp [2, 3, 4, 5, 6, 7, 8, 0, 1, 9, 10, 11, 12, 13, 14, 15, 16, 17, 18, 19] 20 [] 0 (by kernel_rfl) ?_; intro ns9 ts9 Gs9 s9; refine kc 7 (hNl ⟨n + 1, n, n + 3, n + 5, n + 4, W', 32⟩ as1 ps x y lines1 tb3 tb4 ls (argTok 1 (codeOf (‹Cf› : Cf).t)) (.inl rfl) hls1 hLs hL4 hL5 (by have := hT1.lens; (run_tac om)) (by have := congrArg List.length hls1; simp only [List.length_map] at this; (run_tac om)) hL6 ht3 ht4) (by kernel_rfl) ?_ ?_)
  · exact tups_up 13 hT1 (by kernel_rfl)
  rintro r H' ⟨lines2, tb5, tb6, ht5, ht6, h⟩
  rw [hL7] at h
  obtain ⟨tx, htx⟩ : ∃ l, l = (ckL (cutsOf W' 32 (piecesOf ln)) 0 ln).flatten := ⟨_, rfl⟩
  rw [← htx] at h
  (apply Rets.elim h; intro k8 a8 J)
  intro n3 t3 G3 s
  have hP1 : Objs pcO (T ++ N1) as0 ((piecesOf ln).map Mine.s2) := hP.sub fun _ h => List.mem_append_left _ h
  (run_tac gR 19 558479999488)
  (refine gp [8, 9, 10, 11, 12, 13, 14, 15, 16, 17, 18, 7, 2, 3, 19] 20 [] 0 (by kernel_rfl) ?_; intro ns12 ts12 Gs12 s12)
  (refine gp [0, 1, 2, 3, 4, 5, 6, 7, 8, 9, 10, 11, 12, 13, 14] 15 [] 0 (by kernel_rfl) ?_; intro ns13 ts13 Gs13 s13; refine kc 1 (hCu pP W' 32 (argTok 1 (codeOf (‹Cf› : Cf).t)) (argTok 2 (codeOf (‹Cf› : Cf).t)) (piecesOf ln) as0 hok hpn) (by kernel_rfl) ?_ ?_)
  · exact hP1.up 14 (by kernel_rfl)
  rintro r H' ⟨pC, cs, N2, X, hX, hcs, h⟩
  rw [hX] at h
  (apply Rets.elim h; intro k7 a7 J)
  intro n4 t4 G4 s
  (run_tac gR 22 30786325631496)
  (refine gp [0, 1, 2, 3, 4, 5, 6, 7, 8, 9, 10, 11, 12, 13, 14, 15] 16 [] 0 (by kernel_rfl) ?_; intro ns16 ts16 Gs16 s16; refine kb (by kernel_rfl) (fun _ _ => lenstr_ok (x := ⟨⟨ln⟩⟩) (by kernel_rfl) (by have := sizeLine_eq; simp only [Str.length, List.size_toArray]; (run_tac om))) ?_)
  rintro r ⟨m, kL, rfl, hm⟩ n5 t5 G5
  have hm3 : m = (ln.length : Int) := hm
  intro s
  (run_tac gR 31 1171221845949812801)
  (run_tac Mine.gxT 0)
  intro z _
  cases z with
  | isTrue h => exact absurd ((congrArg (fun b => !b) (smallU (m := m) (by (run_tac om)) (by (run_tac om)))).symm.trans h) (by decide)
  | isFalse h =>
  intro s
  (run_tac gR 2 0)
  refine gview 0 ⟨.t "range_iterator", none, .fields [.i ((0 : Nat) : Int), .i (ln.length : Nat), .i 1]⟩ (rngItU m) (by kernel_rfl) (by rw [itU (by (run_tac om)) (by (run_tac om)), hm3]; rfl) fun jv J => ?_
  intro s
  (run_tac gR 3 1)
  (refine gp [2, 1, 0, 10, 11, 4, 5, 6, 7, 8, 9, 12, 13, 14, 15, 16, 17, 18, 19] 20 [] 0 (by kernel_rfl) ?_; intro ns20 ts20 Gs20 s20; refine kc 6 (hCk (n5 + 1) (n5 + 2) (n5 + 3) n0 pC ln cs (cutsOf W' 32 (piecesOf ln)) hcs (by (run_tac om)) hl0) (by kernel_rfl) ?_ ?_)
  · trivial
  rintro r H' ⟨ys, loc5, hys, ⟨v5, rfl⟩, h⟩
  (apply Flows.elim h; intro J)
  intro n6 t6 G6 s
  (run_tac gR 7 8322)
  (refine gp [0, 2, 3, 4, 5, 6, 7, 8, 9, 10, 11, 12, 13, 14, 15, 16, 17] 18 [] 0 (by kernel_rfl) ?_; intro ns23 ts23 Gs23 s23; refine kb (by kernel_rfl) (fun _ _ => joinl_ok (sep := ⟨#[]⟩) (a := n5 + 2 + 281) (lines := ys) (ls := (ckL (cutsOf W' 32 (piecesOf ln)) 0 ln).map fun x => (⟨⟨x⟩⟩ : Str)) (by rw [hys, List.map_map]; rfl) (by kernel_rfl) 0 (by kernel_rfl) (by kernel_rfl) (by have h9 := sizeLine_eq; have h8 := hLT.len; rw [show (⟨#[]⟩ : Str).length = 0 from rfl, flat_len]; (run_tac om))) ?_)
  rintro r ⟨z, kz, rfl, hz⟩
  obtain rfl : z = ⟨⟨tx⟩⟩ := hz.trans ((glued_flat _).trans (by rw [htx]))
  intro n7 t7 G7 s
  (run_tac gR 6 1)
  refine gs (!((tx : List Nat) == tx)) (by kernel_rfl) (fun hb => absurd hb (by simp)) (fun hb => ?_)
  intro s
  (run_tac gR 12 823808)
  (refine gp [10, 11, 3, 5, 6, 7, 8, 1, 2, 9, 12, 4, 14, 15, 13, 16] 17 [] 0 (by kernel_rfl) ?_; intro ns26 ts26 Gs26 s26; refine kc 16 (hDu (lwB ⟨n0, l, pW, pM, pP, pI, pT, W', as0, ws, ms, vs, ve⟩ ln 1 (some (.r (pC + 281))) none tb5 tb6 ++ [apFr n0 l pP ⟨n + 1, n, n + 3, n + 5, n + 4, W', 32⟩ [(.s sBlanks, .s b1'), (.s sPart, .s p1), (.s sText, .s ⟨⟨tx⟩⟩)]] ++ tabO none) (by kernel_rfl) pW pM pC ws ms cs (cutsOf W' 32 (piecesOf ln)) wl hws hms hwl1 hwl2 hcs (by have := hLT.cl; (run_tac om))) (by kernel_rfl) ?_ ?_)
  · trivial
  rintro r H' ⟨pD, ds, N3, hOd, h⟩
  have e8 : dropC (‹Cf› : Cf).cells 16 = T ++ N1 ++ N2 := by kernel_rfl
  rw [e8] at hOd h
  (apply Rets.elim h; intro k6 a6 J)
  intro n8 t8 G8 s
  (run_tac gR 28 4859859933660160)
  (refine gp [17, 0, 1, 2, 3, 4, 5, 6, 7, 8, 9, 10, 11, 12, 13, 14, 15, 16] 18 [] 0 (by kernel_rfl) ?_; intro ns29 ts29 Gs29 s29; refine kc 2 (hLx1 ⟨⟨tx⟩⟩ (argTok 0 (codeOf (‹Cf› : Cf).t)) n8) (by kernel_rfl) ?_ ?_)
  · trivial
  rintro r H' ⟨⟨pX, pXD, pXP, pXS, pXSD, pXG, pXCC, pXCT, pXCA, pXL, fdS, lk1, lk2, lmore⟩, ⟨c1, c2, j1, j2, m1, ck1, ck2, m2⟩, ⟨hag1, hag2, hag3, hag4, hag5⟩, h⟩
  dsimp only at hag1 hag2 hag3 hag4 hag5
  have hag1 := hag1.symm
  subst hag1 hag2 hag3 hag4 hag5
  (apply Rets.elim h; intro k7 a7 J)
  intro n9 t9 G9 s
  have hrd := hLT.rd
  have hcl := hLT.len
  have hdl := hLT.dl
  have hdn := hLT.dn
  rw [← htx] at hrd hcl
  obtain ⟨⟨qp, ql⟩, hr1, hr2, hr3, hr4⟩ := hrd
  dsimp only at hr2 hr3 hr4
  obtain ⟨due, hdue⟩ : ∃ l, l = (dueRun (cutsOf W' 32 (piecesOf ln)) wl ([], 0)).1 := ⟨_, rfl⟩
  rw [← hdue] at hOd hr1 hdl hdn
  have hds := hOd.lens
  have htl : (⟨⟨tx⟩⟩ : Str).length ≤ sizeLine := by have := sizeLine_eq; simp only [Str.length, List.size_toArray]; (run_tac om)
  have htq : qp ≤ (⟨⟨tx⟩⟩ : Str).length := by simp only [Str.length, List.size_toArray]; (run_tac om)
  (run_tac gR 22 5292695078359)
  (refine gp [2, 1, 0, 25, 15, 3, 4, 5, 6, 7, 8, 9, 10, 11, 12, 19, 20, 21, 22, 23, 24, 26, 27, 28, 29, 16, 17, 30, 13, 14] 31 [] 0 (by kernel_rfl) ?_; intro ns32 ts32 Gs32 s32)
  (refine gp [0, 1, 2, 3, 4, 5, 6, 7, 8, 9, 10, 11, 12, 13, 14, 15, 16, 17, 18, 19, 20, 21, 22, 23, 24, 25, 26, 27, 28, 29] 30 [] 0 (by kernel_rfl) ?_; intro ns33 ts33 Gs33 s33; refine kc 30 ((to_v hTo (lwD ⟨n0, l, pW, pM, pP, pI, pT, W', as0, ws, ms, vs, ve⟩ ln 1 (some (.r (pC + 281))) tb5 tb6 ++ [apFr n0 l pP ⟨n + 1, n, n + 3, n + 5, n + 4, W', 32⟩ [(.s sBlanks, .s b1'), (.s sPart, .s p1), (.s sText, .s ⟨⟨tx⟩⟩), (.s sDue, .r (pD + 281)), (.s sAt, .r (n8 + 281))]] ++ codeV ⟨c1, pXCC, j1, j2, m1, lk1, lk2, lmore⟩) (by kernel_rfl) n9 (n9 + 1) (n9 + 2) n0 pD ⟨pX, pXD, pXP, pXS, pXSD, pXG, pXCC, pXCT, pXCA, n8, fdS, lk1, lk2, lmore⟩ ⟨⟨tx⟩⟩ (0, 1) (qp, ql) ds due hds hr1 htl (Nat.zero_le _) (by (run_tac om)) hdn)) (by kernel_rfl) ?_ ?_)
  · trivial
  rintro r H' ⟨td, loc6, N4, hOt, ⟨v6, rfl⟩, h⟩
  have e9 : dropC (‹Cf› : Cf).cells 30 = T ++ N1 ++ N2 ++ N3 := by kernel_rfl
  rw [e9] at hOt h
  (apply Flows.elim h; intro J)
  intro n10 t10 G10 s
  have hOd4 : Objs tuO (T ++ N1 ++ N2 ++ N3 ++ N4) ds due := hOd.sub fun _ h => List.mem_append_left _ h
  (run_tac gR 26 307032238183843577312960)
  (refine gp [0, 3, 2, 4, 5, 6, 7, 8, 9, 10, 11, 12, 13, 14, 15, 16, 17, 18, 19, 20, 21, 22, 23, 24, 25, 26, 27, 28] 29 [] 0 (by kernel_rfl) ?_; intro ns36 ts36 Gs36 s36; refine ko 2 (hNe (n9 + 1) pD td ds due) (by kernel_rfl) ?_ ?_)
  · exact ⟨hOt.up 26 (by kernel_rfl), hOd4.up 26 (by kernel_rfl)⟩
  intro r H' h
  (apply Rets.elim h; intro k5 a5 J)
  intro n11 t11 G11 s
  (run_tac gR 23 5087159849064460364246155715)
  (refine gp [3, 4, 5, 6, 7, 8, 9, 10, 11, 12, 0, 1, 2, 13, 14, 15, 16, 17, 18, 19, 20, 21, 22, 23, 24, 25, 26, 27] 28 [] 0 (by kernel_rfl) ?_; intro ns39 ts39 Gs39 s39; refine kc 10 (hG ⟨pX, pXD, pXP, pXS, pXSD, pXG, pXCC, pXCT, pXCA, n8, fdS, lk1, lk2, lmore⟩ ⟨⟨tx⟩⟩ qp ql htl htq) (by kernel_rfl) ?_ ?_)
  · trivial
  intro r H' h
  rw [hr3, hr4] at h
  (apply Rets.elim h; intro k4 a4 J)
  intro n12 t12 G12 s
  (run_tac gR 26 468374500867057281)
  (refine gp [0, 1, 2, 3, 4, 5, 6, 7, 8, 9, 10, 11, 12, 13, 14, 15, 16, 17, 18, 19, 20, 21, 22, 23, 24, 25, 26, 27] 28 [] 0 (by kernel_rfl) ?_; intro ns42 ts42 Gs42 s42; refine kb (by kernel_rfl) (fun _ _ => lenstr_ok (x := ⟨⟨tx⟩⟩) (by kernel_rfl) htl) ?_)
  rintro r ⟨iL, kL2, rfl, hiL⟩ n13 t13 G13
  intro s
  (run_tac gR 6 1)
  refine gs (!((tx.length : Int) == iL)) (by kernel_rfl) (fun hb => absurd hb (by rw [hiL]; simp [Str.length])) (fun hb => ?_)
  intro s
  (run_tac gR 1 0)
  (refine gp [13, 14, 15, 16, 17, 18, 12, 23, 24, 19, 25, 20, 21, 22, 26, 27, 7] 28 [] 0 (by kernel_rfl) ?_; intro ns45 ts45 Gs45 s45)
  (refine gp [0, 1, 2, 3, 4, 5, 6, 7, 8, 9, 10, 11, 12, 13, 14, 15, 16] 17 [] 0 (by kernel_rfl) ?_; intro ns46 ts46 Gs46 s46; refine kaw (T := ((T ++ N1 ++ N2 ++ N3 ++ N4))) (GT := GT) 17 ((hn ⟨n0, l, pW, pM, pP, pI, pT, W', as0, ws, ms, vs, ve⟩ tb5 tb6 (some ⟨32, n + 1, b1', p1, ⟨⟨tx⟩⟩, pD, n8, n9 + 1, pC, pX, ⟨c1, pXCC, j1, j2, m1, lk1, lk2, lmore⟩⟩) rfl rfl hws hms ht5 ht6)) (by kernel_rfl) ?_ ?_)
  · exact hP.sub fun _ h => List.mem_append_left _ (List.mem_append_left _ (List.mem_append_left _ (List.mem_append_left _ h)))
  rintro r H' ⟨tb7, tb8, g', N5, g1, g2, g3⟩
  rw [List.append_assoc T N1, List.append_assoc T, List.append_assoc T, List.append_assoc T] at g3
  exact ⟨tb7, tb8, g', _, g1, g2, g3⟩
  )
  run_tac sq
set_option maxHeartbeats 0 in
theorem lp1_s {j sp : Nat} (hj : ([32, 120, 92] : List Nat)[j]? = some sp) (hTx : TupNx (cx w b1 b2 h₀ d os hk hN)) {wl : List (List Nat × Int)} {ln : List Nat} {W : Int} (hAi : AiOk (cx w b1 b2 h₀ d os hk hN)) (hAp : ∀ rest, ApOk (cx w b1 b2 h₀ d os hk hN) (W2 w b1 b2).params rest) (hNl : NlBOk (cx w b1 b2 h₀ d os hk hN)) (hCu : CutsOk (cx w b1 b2 h₀ d os hk hN)) (hCk : CkS (cx w b1 b2 h₀ d os hk hN) (W2 w b1 b2).params) (hLx2 : Lx2Ok (cx w b1 b2 h₀ d os hk hN) (W2 w b1 b2).params) (hwl1 : ∀ q ∈ wl, q.1.length ≤ 4 ∧ q.1 ≠ [] ∧ ∀ c ∈ q.1, c < 128) (hwl2 : wl.length ≤ 50) (hTo : ToS (cx w b1 b2 h₀ d os hk hN) (W2 w b1 b2).params) (hG : GtOk (cx w b1 b2 h₀ d os hk hN) (W2 w b1 b2).params) (hNe : TdNe (cx w b1 b2 h₀ d os hk hN)) (hDu : DueV (cx w b1 b2 h₀ d os hk hN))
    (hLT : LawT W sp ln wl) (hok : okPcs (piecesOf ln)) (hl60 : ln.length ≤ 60) (hpn : piecesOf ln ≠ []) (hl0 : ln ≠ []) (hp3 : (piecesOf ln).length ≤ 300) (hn : LpOk (cx w b1 b2 h₀ d os hk hN) (W2 w b1 b2).params wl ln W (j + 1) true) : LpOk (cx w b1 b2 h₀ d os hk hN) (W2 w b1 b2).params wl ln W j true := by
  run_tac sq0
  (
  intro S tb1 tb2 g hSW hg hws hms ht1 ht2
  refine sp_of fun p T GT J hP nz tz Gz => ?_
  intro s
  obtain ⟨n0, l, pW, pM, pP, pI, pT, W', as0, ws, ms, vs, ve⟩ := S
  dsimp only at hSW hws hms hP
  obtain rfl : W' = W := hSW
  have hsp : sp = 32 ∨ sp = 120 ∨ sp = 92 := by
    have := List.mem_of_getElem? hj
    simpa using this
  cases g with
  | none => cases hg
  | some g =>
  obtain ⟨gsp, gm, gb, gpt, gtx, gr1, gr2, gr3, gC, gX, ⟨c1, pXCC, j1, j2, m1, lk1, lk2, lmore⟩⟩ := g
  (run_tac gR 4 65)
  (refine gp [0, 1, 2, 3, 4, 5, 6, 7, 8, 9, 10, 11, 12, 13, 14, 15, 16] 17 [] 0 (by kernel_rfl) ?_; intro ns2 ts2 Gs2 s2; refine ko 2 (hTx pI pT j sp hj) (by kernel_rfl) ?_ ?_)
  · trivial
  intro r H' h
  (apply Rets.elim h; intro kx ax J)
  intro n t G s
  (run_tac gR 288 3396575362253011367486150391838327631799657620307990543414882172956918906208369752414692267640309418889364382125755244072670501488645417511345634211180491532814815294372474793453707036986760621028042121383425496939661275216921357841446346996524296680588898674095492457060266406827039162715175940349094554699640775347535749778027200)
  (refine gp [0, 1, 2, 3, 4, 5, 6, 7, 8, 9, 10, 11, 12, 13, 14, 15, 16, 17, 18, 19, 20, 21, 22] 23 [] 0 (by kernel_rfl) ?_; intro ns5 ts5 Gs5 s5; refine kc 2 (hAi (n + 5) (n + 4) [.int 0 (argTok 1 (codeOf (‹Cf› : Cf).t))] (.inr ⟨_, rfl⟩)) (by kernel_rfl) ?_ ?_)
  · trivial
  intro r H' h
  (apply Rets.elim h; intro k9 a9 J)
  intro n1 t1 G1 s
  (run_tac gR 52 7492030918537346769477150197367488819475433652548)
  (refine gp [0, 17, 18, 1, 2, 19, 20, 3, 6, 5, 7, 8, 9, 10, 11, 12, 13, 14, 15, 16, 21, 22, 23] 24 [] 0 (by kernel_rfl) ?_; intro ns8 ts8 Gs8 s8)
  (refine gp [0, 1, 2, 3, 4, 5, 6, 7, 8, 9, 10, 11, 12, 13, 14, 15, 16, 17, 18, 19, 20, 21, 22] 23 [] 0 (by kernel_rfl) ?_; intro ns9 ts9 Gs9 s9; refine kc 23 ((ap_v (hAp (piecesOf ln)) (lwA ⟨n0, l, pW, pM, pP, pI, pT, W', as0, ws, ms, vs, ve⟩ ln (j + 1) (some (.r (gC + 281))) (some (.r (gX + 281))) ++ codeX ⟨c1, pXCC, j1, j2, m1, lk1, lk2, lmore⟩) (by kernel_rfl) n0 l pP n1 0 ⟨n + 1, n, n + 3, n + 5, n + 4, W', sp⟩ (piecesOf ln) as0 [] [] [] tb1 tb2 [] ([(.s sBlanks, .s gb), (.s sPart, .s gpt)] ++ [(.s sText, .s gtx), (.s sDue, .r (gr1 + 281)), (.s sAt, .r (gr2 + 281)), (.s sTold, .r (gr3 + 281))]) [(.s sText, .s gtx), (.s sDue, .r (gr1 + 281)), (.s sAt, .r (gr2 + 281)), (.s sTold, .r (gr3 + 281))] hsp rfl rfl (fun q hq => hok.2.2.2 q hq) hok.2.2.1 ⟨by decide, by simp⟩ (by simp only [List.length_nil]; (run_tac om)) (by simp only [List.length_nil]; (run_tac om)) ht1 ht2 (.inr ⟨_, _, _, _, rfl⟩) (.inr ⟨_, _, rfl⟩))) (by kernel_rfl) ?_ ?_)
  · have e9 : dropC (‹Cf› : Cf).cells 23 = T := by kernel_rfl
    rw [e9]
    exact ⟨hP, .nil⟩
  rintro r H' ⟨as1, lines1, tb3, tb4, loc1, N1, ht3, ht4, hT1, hls1, hloc1, hne1, h⟩
  have e9 : dropC (‹Cf› : Cf).cells 23 = T := by kernel_rfl
  rw [e9] at hT1 h
  obtain ⟨u, hu⟩ : ∃ u, u = appR W' sp (piecesOf ln) ([], []) := ⟨_, rfl⟩
  have hLs := hLT.sm
  have hL1 := hLT.l1
  have hL2 := hLT.l2
  obtain ⟨ps, x, y, hL3, hL4⟩ := hLT.last
  have hL5 := hLT.nw
  have hL6 := hLT.sz
  have hL7 := hLT.tx
  rw [← hu] at hLs hL1 hL2 hL3 hL5 hL6 hL7
  change Tups (T ++ N1) as1 (appR W' sp (piecesOf ln) ([], [])).2 at hT1
  change lines1.map vv = (appR W' sp (piecesOf ln) ([], [])).1.map VV.s at hls1
  rw [← hu] at hT1 hls1
  obtain ⟨ls, qs⟩ := u
  dsimp only at hLs hL1 hL2 hL3 hL5 hL6 hL7 hT1 hls1
  subst hL3
  rcases hloc1 with ⟨rfl, _⟩ | ⟨b1', p1, rfl⟩
  · exact absurd (hne1 rfl).2 hpn
  (apply Flows.elim h; intro J)
  intro n2 t2 G2 s
  (run_tac gR 23 10077605632469678396599697985)
  (refine gp [2, 3, 4, 5, 6, 7, 8, 0, 1, 9, 10, 11, 12, 13, 14, 15, 16, 17, 18, 19, 20, 21] 22 [] 0 (by kernel_rfl) ?_; intro ns12 ts12 Gs12 s12; refine kc 7 (hNl ⟨n + 1, n, n + 3, n + 5, n + 4, W', sp⟩ as1 ps x y lines1 tb3 tb4 ls (argTok 1 (codeOf (‹Cf› : Cf).t)) hsp hls1 hLs hL4 hL5 (by have := hT1.lens; (run_tac om)) (by have := congrArg List.length hls1; simp only [List.length_map] at this; (run_tac om)) hL6 ht3 ht4) (by kernel_rfl) ?_ ?_)
  · exact tups_up 15 hT1 (by kernel_rfl)
  rintro r H' ⟨lines2, tb5, tb6, ht5, ht6, h⟩
  rw [hL7] at h
  obtain ⟨tx, htx⟩ : ∃ l, l = (ckL (cutsOf W' sp (piecesOf ln)) 0 ln).flatten := ⟨_, rfl⟩
  rw [← htx] at h
  (apply Rets.elim h; intro k8 a8 J)
  intro n3 t3 G3 s
  have hP1 : Objs pcO (T ++ N1) as0 ((piecesOf ln).map Mine.s2) := hP.sub fun _ h => List.mem_append_left _ h
  (run_tac gR 19 558479999488)
  (refine gp [8, 9, 10, 11, 12, 13, 14, 15, 16, 17, 18, 7, 2, 3, 19, 20, 21] 22 [] 0 (by kernel_rfl) ?_; intro ns15 ts15 Gs15 s15)
  (refine gp [0, 1, 2, 3, 4, 5, 6, 7, 8, 9, 10, 11, 12, 13, 14, 15, 16] 17 [] 0 (by kernel_rfl) ?_; intro ns16 ts16 Gs16 s16; refine kc 1 (hCu pP W' sp (argTok 1 (codeOf (‹Cf› : Cf).t)) (argTok 2 (codeOf (‹Cf› : Cf).t)) (piecesOf ln) as0 hok hpn) (by kernel_rfl) ?_ ?_)
  · exact hP1.up 16 (by kernel_rfl)
  rintro r H' ⟨pC, cs, N2, X, hX, hcs, h⟩
  rw [hX] at h
  (apply Rets.elim h; intro k7 a7 J)
  intro n4 t4 G4 s
  (run_tac gR 22 30786325631496)
  (refine gp [0, 1, 2, 3, 4, 5, 6, 7, 8, 9, 10, 11, 12, 13, 14, 15, 16, 17] 18 [] 0 (by kernel_rfl) ?_; intro ns19 ts19 Gs19 s19; refine kb (by kernel_rfl) (fun _ _ => lenstr_ok (x := ⟨⟨ln⟩⟩) (by kernel_rfl) (by have := sizeLine_eq; simp only [Str.length, List.size_toArray]; (run_tac om))) ?_)
  rintro r ⟨m, kL, rfl, hm⟩ n5 t5 G5
  have hm3 : m = (ln.length : Int) := hm
  intro s
  (run_tac gR 31 1171221845949812801)
  (run_tac Mine.gxT 0)
  intro z _
  cases z with
  | isTrue h => exact absurd ((congrArg (fun b => !b) (smallU (m := m) (by (run_tac om)) (by (run_tac om)))).symm.trans h) (by decide)
  | isFalse h =>
  intro s
  (run_tac gR 2 0)
  refine gview 0 ⟨.t "range_iterator", none, .fields [.i ((0 : Nat) : Int), .i (ln.length : Nat), .i 1]⟩ (rngItU m) (by kernel_rfl) (by rw [itU (by (run_tac om)) (by (run_tac om)), hm3]; rfl) fun jv J => ?_
  intro s
  (run_tac gR 3 1)
  (refine gp [2, 1, 0, 10, 11, 4, 5, 6, 7, 8, 9, 12, 13, 14, 15, 16, 17, 18, 19, 20, 21] 22 [] 0 (by kernel_rfl) ?_; intro ns23 ts23 Gs23 s23; refine kc 6 (hCk (n5 + 1) (n5 + 2) (n5 + 3) n0 pC ln cs (cutsOf W' sp (piecesOf ln)) hcs (by (run_tac om)) hl0) (by kernel_rfl) ?_ ?_)
  · trivial
  rintro r H' ⟨ys, loc5, hys, ⟨v5, rfl⟩, h⟩
  (apply Flows.elim h; intro J)
  intro n6 t6 G6 s
  (run_tac gR 7 8322)
  (refine gp [0, 2, 3, 4, 5, 6, 7, 8, 9, 10, 11, 12, 13, 14, 15, 16, 17, 18, 19] 20 [] 0 (by kernel_rfl) ?_; intro ns26 ts26 Gs26 s26; refine kb (by kernel_rfl) (fun _ _ => joinl_ok (sep := ⟨#[]⟩) (a := n5 + 2 + 281) (lines := ys) (ls := (ckL (cutsOf W' sp (piecesOf ln)) 0 ln).map fun x => (⟨⟨x⟩⟩ : Str)) (by rw [hys, List.map_map]; rfl) (by kernel_rfl) 0 (by kernel_rfl) (by kernel_rfl) (by have h9 := sizeLine_eq; have h8 := hLT.len; rw [show (⟨#[]⟩ : Str).length = 0 from rfl, flat_len]; (run_tac om))) ?_)
  rintro r ⟨z, kz, rfl, hz⟩
  obtain rfl : z = ⟨⟨tx⟩⟩ := hz.trans ((glued_flat _).trans (by rw [htx]))
  intro n7 t7 G7 s
  (run_tac gR 6 1)
  refine gs (!((tx : List Nat) == tx)) (by kernel_rfl) (fun hb => absurd hb (by simp)) (fun hb => ?_)
  intro s
  (run_tac gR 12 823808)
  (refine gp [10, 11, 3, 5, 6, 7, 8, 1, 2, 9, 12, 4, 14, 15, 13, 16, 17, 18] 19 [] 0 (by kernel_rfl) ?_; intro ns29 ts29 Gs29 s29; refine kc 18 (hDu (lwB ⟨n0, l, pW, pM, pP, pI, pT, W', as0, ws, ms, vs, ve⟩ ln (j + 1) (some (.r (pC + 281))) (some (.r (gX + 281))) tb5 tb6 ++ [apFr n0 l pP ⟨n + 1, n, n + 3, n + 5, n + 4, W', sp⟩ [(.s sBlanks, .s b1'), (.s sPart, .s p1), (.s sText, .s ⟨⟨tx⟩⟩), (.s sDue, .r (gr1 + 281)), (.s sAt, .r (gr2 + 281)), (.s sTold, .r (gr3 + 281))]] ++ codeX ⟨c1, pXCC, j1, j2, m1, lk1, lk2, lmore⟩) (by kernel_rfl) pW pM pC ws ms cs (cutsOf W' sp (piecesOf ln)) wl hws hms hwl1 hwl2 hcs (by have := hLT.cl; (run_tac om))) (by kernel_rfl) ?_ ?_)
  · trivial
  rintro r H' ⟨pD, ds, N3, hOd, h⟩
  have e8 : dropC (‹Cf› : Cf).cells 18 = T ++ N1 ++ N2 := by kernel_rfl
  rw [e8] at hOd h
  (apply Rets.elim h; intro k6 a6 J)
  intro n8 t8 G8 s
  (run_tac gR 28 4859859933660160)
  (refine gp [17, 18, 19, 0, 1, 2, 3, 4, 5, 6, 7, 8, 9, 10, 11, 12, 13, 14, 15, 16] 20 [] 0 (by kernel_rfl) ?_; intro ns32 ts32 Gs32 s32; refine kc 4 (hLx2 ⟨⟨tx⟩⟩ (argTok 0 (codeOf (‹Cf› : Cf).t)) n8 ⟨c1, pXCC, j1, j2, m1, lk1, lk2, lmore⟩) (by kernel_rfl) ?_ ?_)
  · trivial
  rintro r H' ⟨⟨pX, pXD, pXP, pXS, pXSD, pXG, xC2, pXCT, pXCA, pXL, fdS, xk1, xk2, xmore⟩, ⟨hag1, hag2, hag3, hag4, hag5⟩, h⟩
  dsimp only at hag1 hag2 hag3 hag4 hag5
  have hag1 := hag1.symm
  have hag2 := hag2.symm
  have hag3 := hag3.symm
  have hag4 := hag4.symm
  have hag5 := hag5.symm
  subst hag1 hag2 hag3 hag4 hag5
  (apply Rets.elim h; intro k7 a7 J)
  intro n9 t9 G9 s
  have hrd := hLT.rd
  have hcl := hLT.len
  have hdl := hLT.dl
  have hdn := hLT.dn
  rw [← htx] at hrd hcl
  obtain ⟨⟨qp, ql⟩, hr1, hr2, hr3, hr4⟩ := hrd
  dsimp only at hr2 hr3 hr4
  obtain ⟨due, hdue⟩ : ∃ l, l = (dueRun (cutsOf W' sp (piecesOf ln)) wl ([], 0)).1 := ⟨_, rfl⟩
  rw [← hdue] at hOd hr1 hdl hdn
  have hds := hOd.lens
  have htl : (⟨⟨tx⟩⟩ : Str).length ≤ sizeLine := by have := sizeLine_eq; simp only [Str.length, List.size_toArray]; (run_tac om)
  have htq : qp ≤ (⟨⟨tx⟩⟩ : Str).length := by simp only [Str.length, List.size_toArray]; (run_tac om)
  (run_tac gR 22 5292695078359)
  (refine gp [2, 1, 0, 25, 15, 3, 4, 5, 6, 7, 8, 9, 10, 11, 12, 19, 20, 21, 22, 23, 24, 26, 27, 28, 29, 16, 17, 30, 13, 14] 31 [] 0 (by kernel_rfl) ?_; intro ns35 ts35 Gs35 s35)
  (refine gp [0, 1, 2, 3, 4, 5, 6, 7, 8, 9, 10, 11, 12, 13, 14, 15, 16, 17, 18, 19, 20, 21, 22, 23, 24, 25, 26, 27, 28, 29] 30 [] 0 (by kernel_rfl) ?_; intro ns36 ts36 Gs36 s36; refine kc 30 ((to_v hTo (lwD ⟨n0, l, pW, pM, pP, pI, pT, W', as0, ws, ms, vs, ve⟩ ln (j + 1) (some (.r (pC + 281))) tb5 tb6 ++ [apFr n0 l pP ⟨n + 1, n, n + 3, n + 5, n + 4, W', sp⟩ [(.s sBlanks, .s b1'), (.s sPart, .s p1), (.s sText, .s ⟨⟨tx⟩⟩), (.s sDue, .r (pD + 281)), (.s sAt, .r (n8 + 281)), (.s sTold, .r (gr3 + 281))]] ++ codeV ⟨c1, pXCC, j1, j2, m1, lk1, lk2, lmore⟩) (by kernel_rfl) n9 (n9 + 1) (n9 + 2) n0 pD ⟨pX, pXD, pXP, pXS, pXSD, pXG, pXCC, pXCT, pXCA, n8, fdS, lk1, lk2, lmore⟩ ⟨⟨tx⟩⟩ (0, 1) (qp, ql) ds due hds hr1 htl (Nat.zero_le _) (by (run_tac om)) hdn)) (by kernel_rfl) ?_ ?_)
  · trivial
  rintro r H' ⟨td, loc6, N4, hOt, ⟨v6, rfl⟩, h⟩
  have e9 : dropC (‹Cf› : Cf).cells 30 = T ++ N1 ++ N2 ++ N3 := by kernel_rfl
  rw [e9] at hOt h
  (apply Flows.elim h; intro J)
  intro n10 t10 G10 s
  have hOd4 : Objs tuO (T ++ N1 ++ N2 ++ N3 ++ N4) ds due := hOd.sub fun _ h => List.mem_append_left _ h
  (run_tac gR 26 307032238183843577312960)
  (refine gp [0, 3, 2, 4, 5, 6, 7, 8, 9, 10, 11, 12, 13, 14, 15, 16, 17, 18, 19, 20, 21, 22, 23, 24, 25, 26, 27, 28] 29 [] 0 (by kernel_rfl) ?_; intro ns39 ts39 Gs39 s39; refine ko 2 (hNe (n9 + 1) pD td ds due) (by kernel_rfl) ?_ ?_)
  · exact ⟨hOt.up 26 (by kernel_rfl), hOd4.up 26 (by kernel_rfl)⟩
  intro r H' h
  (apply Rets.elim h; intro k5 a5 J)
  intro n11 t11 G11 s
  (run_tac gR 23 5087159849064460364246155715)
  (refine gp [3, 4, 5, 6, 7, 8, 9, 10, 11, 12, 0, 1, 2, 13, 14, 15, 16, 17, 18, 19, 20, 21, 22, 23, 24, 25, 26, 27] 28 [] 0 (by kernel_rfl) ?_; intro ns42 ts42 Gs42 s42; refine kc 10 (hG ⟨pX, pXD, pXP, pXS, pXSD, pXG, pXCC, pXCT, pXCA, n8, fdS, lk1, lk2, lmore⟩ ⟨⟨tx⟩⟩ qp ql htl htq) (by kernel_rfl) ?_ ?_)
  · trivial
  intro r H' h
  rw [hr3, hr4] at h
  (apply Rets.elim h; intro k4 a4 J)
  intro n12 t12 G12 s
  (run_tac gR 26 468374500867057281)
  (refine gp [0, 1, 2, 3, 4, 5, 6, 7, 8, 9, 10, 11, 12, 13, 14, 15, 16, 17, 18, 19, 20, 21, 22, 23, 24, 25, 26, 27] 28 [] 0 (by kernel_rfl) ?_; intro ns45 ts45 Gs45 s45; refine kb (by kernel_rfl) (fun _ _ => lenstr_ok (x := ⟨⟨tx⟩⟩) (by kernel_rfl) htl) ?_)
  rintro r ⟨iL, kL2, rfl, hiL⟩ n13 t13 G13
  intro s
  (run_tac gR 6 1)
  refine gs (!((tx.length : Int) == iL)) (by kernel_rfl) (fun hb => absurd hb (by rw [hiL]; simp [Str.length])) (fun hb => ?_)
  intro s
  (run_tac gR 1 0)
  (refine gp [13, 14, 15, 16, 17, 18, 12, 23, 24, 19, 25, 20, 21, 22, 26, 27, 7] 28 [] 0 (by kernel_rfl) ?_; intro ns48 ts48 Gs48 s48)
  (refine gp [0, 1, 2, 3, 4, 5, 6, 7, 8, 9, 10, 11, 12, 13, 14, 15, 16] 17 [] 0 (by kernel_rfl) ?_; intro ns49 ts49 Gs49 s49; refine kaw (T := ((T ++ N1 ++ N2 ++ N3 ++ N4))) (GT := GT) 17 ((hn ⟨n0, l, pW, pM, pP, pI, pT, W', as0, ws, ms, vs, ve⟩ tb5 tb6 (some ⟨sp, n + 1, b1', p1, ⟨⟨tx⟩⟩, pD, n8, n9 + 1, pC, pX, ⟨c1, pXCC, j1, j2, m1, lk1, lk2, lmore⟩⟩) rfl rfl hws hms ht5 ht6)) (by kernel_rfl) ?_ ?_)
  · exact hP.sub fun _ h => List.mem_append_left _ (List.mem_append_left _ (List.mem_append_left _ (List.mem_append_left _ h)))
  rintro r H' ⟨tb7, tb8, g', N5, g1, g2, g3⟩
  rw [List.append_assoc T N1, List.append_assoc T, List.append_assoc T, List.append_assoc T] at g3
  exact ⟨tb7, tb8, g', _, g1, g2, g3⟩
  )
  run_tac sq
set_option maxHeartbeats 0 in
theorem tupnx_t : TupNx (cx w b1 b2 h₀ d os hk hN) := by
  run_tac sq0
  intro pI pT j sp hj
  refine sp_of fun p T GT J hP n t G => ?_
  intro s
  have hl : j < 3 := (List.getElem?_eq_some_iff.mp hj).1
  rcases (by (run_tac om) : j = 0 ∨ j = 1 ∨ j = 2) with rfl | rfl | rfl <;> (
    obtain rfl := Option.some.inj hj
    (run_tac gR 5 17047617)
    (refine gp [0, 1] 2 [] 0 (by kernel_rfl) ?_; intro ns2 ts2 Gs2 s2)
    refine ke (by kernel_rfl) ?_
    exact rets 2 (by kernel_rfl))
  run_tac sq
set_option maxHeartbeats 0 in
theorem lp_z {wl : List (List Nat × Int)} {ln : List Nat} {W : Int} : LpOk (cx w b1 b2 h₀ d os hk hN) (W2 w b1 b2).params wl ln W 3 true := by
  run_tac sq0
  (
  intro S tb1 tb2 g hSW hg hws hms ht1 ht2
  refine sp_of fun p T GT J hP n t G => ?_
  intro s
  obtain ⟨n0, l, pW, pM, pP, pI, pT, W', as0, ws, ms, vs, ve⟩ := S
  cases g with
  | none => cases hg
  | some g =>
  obtain ⟨gsp, gm, gb, gpt, gtx, gr1, gr2, gr3, gC, gX, ⟨c1, pXCC, j1, j2, m1, lk1, lk2, lmore⟩⟩ := g
  (run_tac gR 17 4467873550401)
  (refine gp [4, 5, 6, 7, 8, 9, 10, 11, 12, 13, 14, 15, 16, 17, 18] 19 [] 0 (by kernel_rfl) ?_; intro ns8 ts8 Gs8 s8)
  refine ke (by kernel_rfl) ?_
  refine ⟨tb1, tb2, ⟨gsp, gm, gb, gpt, gtx, gr1, gr2, gr3, gC, gX, ⟨c1, pXCC, j1, j2, m1, lk1, lk2, lmore⟩⟩, [], ht1, ht2, ?_⟩
  rw [List.append_nil]
  exact flows 15 (by kernel_rfl)
  )
  run_tac sq
set_option maxHeartbeats 0 in
theorem law_t {vs : List PySem.Value} {ve : Nat} (hNu : ∀ B, okB [[0, 3]] B = true → Sp (cx w b1 b2 h₀ d os hk hN) (.call (.ref 231) ⟨[.ref 280], []⟩) B [(280, ⟨.t "list", none, .exact (.seq ⟨vs⟩ ve)⟩)] noP (fun T GT r H => ∃ (l : Nat) (N : NS), Rets (.r (l + 281)) [(l + 281, ⟨.t "list", none, .seqV N.vals⟩), (280, ⟨.t "list", none, .exact (.seq ⟨vs⟩ ve)⟩)] T GT r H)) (hW : NbOk (cx w b1 b2 h₀ d os hk hN) (wdE (W2 w b1 b2).params) (fun m => VV.s (wordOf m))) (hM : NbOk (cx w b1 b2 h₀ d os hk hN) (mnE (W2 w b1 b2).params) (fun m => VV.i (mnOf m))) (hLn : LnsOk (cx w b1 b2 h₀ d os hk hN) (W2 w b1 b2).params) (hPc : PiecesV (cx w b1 b2 h₀ d os hk hN) vs ve) {ns : List Int} (hns : vs.map vv = ns.map VV.i) (h63 : vs.length ≤ 63) (hLp : ∀ (N : NS) (W : Int), 4 ≤ W → W ≤ 12 → LpOk (cx w b1 b2 h₀ d os hk hN) (W2 w b1 b2).params (wlN N) (lineL N) W 0 false) (hSu : ∀ (pS pI k : Nat), SumWOk (cx w b1 b2 h₀ d os hk hN) pS pI vs ve ns 0 k) :
    LawOk (cx w b1 b2 h₀ d os hk hN) vs ve := by
  run_tac sq0
  refine sp_of fun p T GT J hP n t G => ?_
  intro s
  (run_tac gR 22 26389455044608)
  (refine gp [6, 0, 1, 2, 3, 4, 5, 7, 8, 9] 10 [] 0 (by kernel_rfl) ?_; intro ns2 ts2 Gs2 s2; refine kc 1 (hNu) (by kernel_rfl) ?_ ?_)
  · trivial
  rintro r H' ⟨l, N, h⟩
  (apply Rets.elim h; intro k9 a9 J)
  intro n1 t1 G1 s
  (run_tac gR 23 285942835347968)
  (refine gp [2, 1, 0, 3, 4, 5, 6, 7, 8, 9, 10, 11, 12, 13] 14 [] 0 (by kernel_rfl) ?_; intro ns5 ts5 Gs5 s5; refine kc 4 (hW n1 (n1 + 1) (n1 + 2) n l N) (by kernel_rfl) ?_ ?_)
  · trivial
  rintro r H' ⟨xs, hxs, h⟩
  obtain ⟨v0, xs, rfl, e0, hxs⟩ := map_cons hxs
  obtain ⟨v1, xs, rfl, e1, hxs⟩ := map_cons hxs
  obtain ⟨v2, xs, rfl, e2, hxs⟩ := map_cons hxs
  obtain ⟨v3, xs, rfl, e3, hxs⟩ := map_cons hxs
  obtain rfl := map_nil hxs
  obtain ⟨k0, rfl⟩ := vv_s e0
  obtain ⟨k1, rfl⟩ := vv_s e1
  obtain ⟨k2, rfl⟩ := vv_s e2
  obtain ⟨k3, rfl⟩ := vv_s e3
  (apply Flows.elim h; intro J)
  intro n2 t2 G2 s
  (run_tac gR 42 5468079436239123896510398074945)
  (refine gp [2, 1, 0, 7, 3, 8, 9, 10, 11, 12, 13, 14, 15, 16, 17] 18 [] 0 (by kernel_rfl) ?_; intro ns8 ts8 Gs8 s8; refine kc 4 (hM (n2 + 2) (n2 + 3) (n2 + 4) n l N) (by kernel_rfl) ?_ ?_)
  · trivial
  rintro r H' ⟨xs, hxs, h⟩
  obtain ⟨v0, xs, rfl, e0, hxs⟩ := map_cons hxs
  obtain ⟨v1, xs, rfl, e1, hxs⟩ := map_cons hxs
  obtain ⟨v2, xs, rfl, e2, hxs⟩ := map_cons hxs
  obtain ⟨v3, xs, rfl, e3, hxs⟩ := map_cons hxs
  obtain rfl := map_nil hxs
  obtain ⟨j0, rfl⟩ := vv_i e0
  obtain ⟨j1, rfl⟩ := vv_i e1
  obtain ⟨j2, rfl⟩ := vv_i e2
  obtain ⟨j3, rfl⟩ := vv_i e3
  (apply Flows.elim h; intro J)
  intro n3 t3 G3 s
  (run_tac gR 69 1449902417987006863297000177241133743218626625)
  (refine gp [2, 1, 0, 15, 14, 9, 4, 8, 10, 11, 12, 13, 16, 17, 18, 19] 20 [] 0 (by kernel_rfl) ?_; intro ns11 ts11 Gs11 s11; refine kc 7 (hLn (n3 + 3) (n3 + 4) (n3 + 5) n (n + 1) (n + 2) (n2 + 1) (n3 + 1) (wl N.n0) (wl N.n1) (wl N.n2) (wl N.n3) [120] (mnOf N.n0) (mnOf N.n1) (mnOf N.n2) (mnOf N.n3) 0 (wlN_5 N)) (by kernel_rfl) ?_ ?_)
  · trivial
  rintro r H' ⟨xs, hxs, h⟩
  (apply Flows.elim h; intro J)
  intro n4 t4 G4 s
  (run_tac gR 7 4161)
  (refine gp [1, 2, 3, 4, 5, 6, 7, 8, 9, 10, 11, 12, 13, 14] 15 [] 0 (by kernel_rfl) ?_; intro ns14 ts14 Gs14 s14; refine kb (by kernel_rfl) (fun _ _ => joinl_ok (sep := ⟨#[]⟩) (a := n3 + 4 + 281) (lines := xs) (ls := (lineP N).map fun x => (⟨⟨x⟩⟩ : Str)) (by rw [hxs]; rfl) (by kernel_rfl) 0 (by kernel_rfl) (by kernel_rfl) (by have h9 := sizeLine_eq; have := lineS_le N; rw [show (⟨#[]⟩ : Str).length = 0 from rfl]; (run_tac om))) ?_)
  rintro r ⟨z, kz, rfl, hz⟩
  obtain ⟨ln, hln⟩ : ∃ l, l = lineL N := ⟨_, rfl⟩
  obtain rfl : z = ⟨⟨ln⟩⟩ := hz.trans ((glued_flat _).trans (by rw [hln]; rfl))
  have hl55 : ln.length ≤ 55 := hln ▸ line_le N
  have hla : ∀ c ∈ ln, c < 128 := hln ▸ line_ascii N
  have hl0 : ln ≠ [] := hln ▸ line_ne N
  intro n5 t5 G5 s
  (run_tac gR 14 2622090)
  (refine gp [6, 10, 1, 2, 9, 8, 7, 3, 4, 5, 11, 12, 13] 14 [] 0 (by kernel_rfl) ?_; intro ns16 ts16 Gs16 s16; refine kc 13 (hPc [(n + 281, ⟨.t "frame", none, .dict [(.s sScript, .r 280), (.s sNumbers, .r (l + 281))]⟩), (n + 282, ⟨.t "cell", none, .cell (some (.r (n2 + 282)))⟩), (n + 283, ⟨.t "cell", none, .cell (some (.r (n3 + 282)))⟩), (n + 284, ⟨.t "cell", none, .cell (some (.s ⟨⟨ln⟩⟩))⟩), (n + 285, ⟨.t "cell", none, .cell none⟩), (n + 286, ⟨.t "cell", none, .cell none⟩), (n2 + 282, ⟨.t "list", none, .seq [.s ⟨⟨wl N.n0⟩⟩, .s ⟨⟨wl N.n1⟩⟩, .s ⟨⟨wl N.n2⟩⟩, .s ⟨⟨wl N.n3⟩⟩, .s ⟨⟨[120]⟩⟩]⟩), (n3 + 282, ⟨.t "list", none, .seq [.i (mnOf N.n0), .i (mnOf N.n1), .i (mnOf N.n2), .i (mnOf N.n3), .i 0]⟩), (l + 281, ⟨.t "list", none, .seqV N.vals⟩), (140, ⟨.none, none, .exact (.fields ⟨[]⟩)⟩), (147, ⟨.none, none, .exact (.fields ⟨[]⟩)⟩), (269, ⟨.none, none, .exact (.fields ⟨[]⟩)⟩)] (by kernel_rfl) ln (argTok 0 (codeOf (‹Cf› : Cf).t)) hla hl0 (by (run_tac om))) (by kernel_rfl) ?_ ?_)
  · trivial
  rintro r H' ⟨pP, as0, X0, hO0, h⟩
  have e7 : dropC (‹Cf› : Cf).cells 13 = T := by kernel_rfl
  rw [e7] at hO0 h
  (apply Rets.elim h; intro k8 a8 J)
  intro n6 t6 G6 s
  (run_tac gR 30 1189240713355735232)
  (refine gp [0, 1, 3, 2, 4, 5, 6, 7, 8, 9, 10, 11, 12, 13, 14, 15] 16 [] 0 (by kernel_rfl) ?_; intro ns19 ts19 Gs19 s19; refine ko 3 (hSu (n6 + 1) n6 (vs.length + 1) 0 0 (by (run_tac om))) (by kernel_rfl) ?_ ?_)
  · trivial
  intro r H' h
  obtain ⟨k0, a0, J, rfl, rfl⟩ := h.open
  intro n7 t7 G7 s
  (run_tac gR 12 0)
  refine gint (by kernel_rfl) fun m hm => ?_
  have hm2 : m = Int.fmod (4 + (0 + (ns.drop 0).sum)) 9 := hm.trans (by kernel_rfl)
  have hm0 := Int.fmod_nonneg_of_pos (4 + (0 + (ns.drop 0).sum)) (show (0 : Int) < 9 by decide)
  have hm9 := Int.fmod_lt_of_pos (4 + (0 + (ns.drop 0).sum)) (show (0 : Int) < 9 by decide)
  rw [← hm2] at hm0 hm9
  intro s
  (run_tac gR 29 4467856781504)
  obtain ⟨ws, hwsd⟩ : ∃ xs, xs = seqAt (‹Cf› : Cf).cells 10 := ⟨_, rfl⟩
  have hws : ws.map vv = (wlN N).map strL := (congrArg (List.map vv) hwsd).trans (by kernel_rfl)
  refine gview 10 ⟨.t "list", none, .seqV ws⟩ ⟨.t "list", none, .seqV (seqAt (‹Cf› : Cf).cells 10)⟩ (by kernel_rfl) (by rw [← hwsd]) fun jv J => ?_
  intro s
  obtain ⟨ms, hmsd⟩ : ∃ xs, xs = seqAt (‹Cf› : Cf).cells 11 := ⟨_, rfl⟩
  have hms : ms.map vv = (wlN N).map (fun q => VV.i q.2) := (congrArg (List.map vv) hmsd).trans (by kernel_rfl)
  refine gview 11 ⟨.t "list", none, .seqV ms⟩ ⟨.t "list", none, .seqV (seqAt (‹Cf› : Cf).cells 11)⟩ (by kernel_rfl) (by rw [← hmsd]) fun jv J => ?_
  intro s
  (refine gp [0, 1, 5, 6, 7, 8, 9, 10, 11, 2, 4, 3, 13, 14, 15] 16 [] 0 (by kernel_rfl) ?_; intro ns23 ts23 Gs23 s23)
  have hLp1 := hLp N (4 + m) (by (run_tac om)) (by (run_tac om))
  rw [← hln] at hLp1
  (refine gp [0, 1, 2, 3, 4, 5, 6, 7, 8, 9, 10, 11, 12, 13, 14] 15 [] 0 (by kernel_rfl) ?_; intro ns24 ts24 Gs24 s24; refine kc 15 ((hLp1 ⟨n, l, n2 + 1, n3 + 1, pP, n7 + 1, n7, 4 + m, as0, ws, ms, vs, ve⟩ [] [] none rfl rfl hws hms (.inl rfl) (.inl rfl))) (by kernel_rfl) ?_ ?_)
  · have e9 : dropC (‹Cf› : Cf).cells 15 = T ++ X0 := by kernel_rfl
    rw [e9]
    exact hO0
  rintro r H' ⟨tb1, tb2, ⟨gsp, gm, gb, gpt, gtx, gr1, gr2, gr3, gC, gX, ⟨c1, pXCC, j1, j2, m1, lk1, lk2, lmore⟩⟩, N1, ht1, ht2, h⟩
  have e9 : dropC (‹Cf› : Cf).cells 15 = T ++ X0 := by kernel_rfl
  rw [e9] at h
  (apply Flows.elim h; intro J)
  intro n8 t8 G8 s
  (run_tac gR 1 0)
  (refine gp [7, 10, 11, 12, 13, 14] 15 [] 0 (by kernel_rfl) ?_; intro ns27 ts27 Gs27 s27)
  refine ke (by kernel_rfl) ?_
  refine ⟨tb1, tb2, ⟨c1, pXCC, j1, j2, m1, lk1, lk2, lmore⟩, X0 ++ N1, ht1, ht2, ?_⟩
  rw [← List.append_assoc]
  exact rets 6 (by kernel_rfl)
  run_tac sq
end Mine
end
section -- Q1
set_option backward.match.sparseCases false
set_option genSizeOf false
set_option genInjectivity false
open PySem PySem.W PySem.W.X PySem.Builtin PySem.Builtin.Str
namespace Mine
noncomputable def insL (cv : List Int) (k : Nat) (l : List Nat) : List Nat := (ckL cv k l).flatten
theorem insL_cons (cv : List Int) (k c : Nat) (l : List Nat) : insL cv k (c :: l) = (if (k : Int) ∈ cv then [10, c] else [c]) ++ insL cv (k + 1) l := rfl
theorem insL_yes {cv : List Int} {k c : Nat} {l : List Nat} (h : (k : Int) ∈ cv) : insL cv k (c :: l) = 10 :: c :: insL cv (k + 1) l := by rw [insL_cons, if_pos h]; rfl
theorem insL_no {cv : List Int} {k c : Nat} {l : List Nat} (h : ¬ (k : Int) ∈ cv) : insL cv k (c :: l) = c :: insL cv (k + 1) l := by rw [insL_cons, if_neg h]; rfl
noncomputable def nlsL (l : List Nat) : Nat := (l.map nl).sum
noncomputable def white (l : List Nat) : Prop := ∀ c ∈ l, isWs c = true
theorem outer_white {ws l : List Nat} (h : white ws) : outer (ws ++ l) = (outer l).plus ws.length (nlsL ws) := by
  run_tac sq0
  (
  induction ws with
  | nil => rfl
  | cons c ws ih =>
    rw [List.cons_append, outer_ws c _ (h c (.head _)), ih fun x hx => h x (.tail _ hx)]
    show LX.mk _ _ _ _ = LX.mk _ _ _ _
    congr 1
    show _ + nlsL ws + nl c = _ + nlsL (c :: ws)
    simp only [nlsL, List.map_cons, List.sum_cons]
    (run_tac om)
  )
  run_tac sq
noncomputable def RdL : List (List Nat × Int) → List Nat × Int → List Nat × Int → Prop
  | [], q, q' => q' = q
  | e :: es, q, q' => (outer q.1).tok = e.1 ∧ q.2 + (outer q.1).nls = e.2 ∧ (outer q.1).cons ≤ q.1.length ∧ RdL es (q.1.drop (outer q.1).cons, e.2) q'
noncomputable def RdW (es : List (List Nat × Int)) (q q' : List Nat × Int) : Prop := ∃ ws n, white ws ∧ RdL es q (ws ++ q'.1, n) ∧ q'.2 = n + nlsL ws
theorem RdL_app : ∀ {es es' : List (List Nat × Int)} {q q' q'' : List Nat × Int}, RdL es q q' → RdL es' q' q'' → RdL (es ++ es') q q''
  | [], _, _, _, _, h, h' => by cases h; exact h'
  | _ :: _, _, _, _, _, ⟨h1, h2, h3, h4⟩, h' => ⟨h1, h2, h3, RdL_app h4 h'⟩
theorem RdL_ws {e : List Nat × Int} {es : List (List Nat × Int)} {ws l : List Nat} {n m : Int} {q : List Nat × Int} (hw : white ws) (hm : m = n + nlsL ws) (h : RdL (e :: es) (l, m) q) : RdL (e :: es) (ws ++ l, n) q := by
  run_tac sq0
  obtain ⟨h1, h2, h3, h4⟩ := h
  have ho := outer_white (l := l) hw
  dsimp only at h1 h2 h3 h4
  refine ⟨?_, ?_, ?_, ?_⟩ <;> dsimp only <;> rw [ho]
  · exact h1
  · show n + ((outer l).nls + nlsL ws : Nat) = _; (run_tac om)
  · show (outer l).cons + ws.length ≤ _; rw [List.length_append]; (run_tac om)
  · show RdL es ((ws ++ l).drop ((outer l).cons + ws.length), e.2) q
    rw [Nat.add_comm, List.drop_append, List.drop_eq_nil_of_le (by (run_tac om)), Nat.add_sub_cancel_left]
    exact h4
  run_tac sq
theorem RdW_ws {es : List (List Nat × Int)} {ws l : List Nat} {n m : Int} {q : List Nat × Int} (hw : white ws) (hm : m = n + nlsL ws) (h : RdW es (l, m) q) : RdW es (ws ++ l, n) q := by
  run_tac sq0
  (
  obtain ⟨w2, n2, hw2, h, e⟩ := h
  cases es with
  | nil =>
    have h : (w2 ++ q.1, n2) = (l, m) := h
    injection h with h1 h2
    refine ⟨ws ++ w2, n, fun c hc => (List.mem_append.mp hc).elim (hw c) (hw2 c), ?_, ?_⟩
    · show (ws ++ w2 ++ q.1, n) = (ws ++ l, n)
      rw [List.append_assoc, h1]
    · rw [e, h2, hm]
      simp only [nlsL, List.map_append, List.sum_append]
      (run_tac om)
  | cons x es => exact ⟨w2, n2, hw2, RdL_ws hw hm h, e⟩
  )
  run_tac sq
theorem RdW_app {es es' : List (List Nat × Int)} {q q' q'' : List Nat × Int} (h : RdW es q q') (h' : RdW es' q' q'') : RdW (es ++ es') q q'' := by
  obtain ⟨ws, n, hw, h, e⟩ := h
  obtain ⟨l, m⟩ := q'
  obtain ⟨w2, n2, hw2, h2, e2⟩ := RdW_ws hw e h'
  exact ⟨w2, n2, hw2, RdL_app h h2, e2⟩
theorem RdW_nil (q : List Nat × Int) : RdW [] q q := ⟨[], q.2, fun _ h => (nomatch h), rfl, by simp [nlsL]⟩
noncomputable def InT (stop : Nat → Bool) (acc l : List Nat) (n : Int) (es : List (List Nat × Int)) (q : List Nat × Int) : Prop :=
  ∃ t k es', es = (t, k) :: es' ∧ (lx stop l acc).tok = t ∧ n + (lx stop l acc).nls = k ∧ (lx stop l acc).cons ≤ l.length ∧ RdW es' (l.drop (lx stop l acc).cons, k) q
section
variable {st : Nat → Bool} {acc l : List Nat} {n : Int} {es : List (List Nat × Int)} {q : List Nat × Int}
theorem InT.stop {c : Nat} (hs : st c = true) {es' : List (List Nat × Int)} {m : Int} (hm : m = n + nl c) (h : RdW es' (l, m) q) : InT st acc (c :: l) n ((acc, m) :: es') q := by
  have e := lx_stop st c l acc hs
  refine ⟨acc, m, es', rfl, ?_, ?_, ?_, ?_⟩ <;> rw [e]
  · exact hm.symm
  · simp
  · simpa using h
theorem InT.fin : InT st acc [] n [(acc, n)] ([], n) := by
  refine ⟨acc, n, [], rfl, rfl, ?_, Nat.le_refl _, RdW_nil _⟩
  show n + ((0 : Nat) : Int) = n
  (run_tac om)
theorem InT.one {c : Nat} (hs : st c = false) (h92 : c ≠ 92) {m : Int} (hm : m = n + nl c) (h : InT st (acc ++ [c]) l m es q) : InT st acc (c :: l) n es q := by
  run_tac sq0
  obtain ⟨t, k, es', rfl, h1, h2, h3, h4⟩ := h
  have e := lx_step st c l acc hs h92
  refine ⟨t, k, es', rfl, ?_, ?_, ?_, ?_⟩ <;> rw [e] <;> dsimp only
  · exact h1
  · push_cast; (run_tac om)
  · simp only [List.length_cons]; (run_tac om)
  · rw [List.drop_succ_cons]; exact h4
  run_tac sq
theorem InT.two {c : Nat} (hs : st 92 = false) {m : Int} (hm : m = n + nl c) (h : InT st (acc ++ [c]) l m es q) : InT st acc (92 :: c :: l) n es q := by
  run_tac sq0
  obtain ⟨t, k, es', rfl, h1, h2, h3, h4⟩ := h
  have e := lx_esc st c l acc hs
  refine ⟨t, k, es', rfl, ?_, ?_, ?_, ?_⟩ <;> rw [e] <;> dsimp only
  · exact h1
  · push_cast; (run_tac om)
  · simp only [List.length_cons]; (run_tac om)
  · show RdW es' ((92 :: c :: l).drop ((lx st l (acc ++ [c])).cons + 1 + 1), k) q
    rw [List.drop_succ_cons, List.drop_succ_cons]; exact h4
  run_tac sq
theorem InT.rd {l0 : List Nat} {j i : Nat} {n0 : Int} (h : InT st acc l n es q) (ho : outer l0 = (lx st l acc).plus j i) (hl : l0.drop j = l) (hj : j + l.length = l0.length) (hn : n = n0 + i) : RdW es (l0, n0) q := by
  run_tac sq0
  obtain ⟨t, k, es', rfl, h1, h2, h3, ws, m, h4, h5, h6⟩ := h
  refine ⟨ws, m, h4, ⟨?_, ?_, ?_, ?_⟩, h6⟩ <;> dsimp only <;> rw [ho]
  · exact h1
  · show n0 + ((lx st l acc).nls + i : Nat) = k; (run_tac om)
  · show (lx st l acc).cons + j ≤ _; (run_tac om)
  · show RdL es' (l0.drop ((lx st l acc).cons + j), k) (ws ++ q.1, m)
    rw [Nat.add_comm, ← List.drop_drop, hl]
    exact h5
  run_tac sq
end
theorem rd_of {tx : Str} : ∀ {es : List (List Nat × Int)} {pos : Nat} {n : Int} {q : List Nat × Int}, pos ≤ tx.length → RdL es (restAt tx pos, n) q → ∃ pos', Rd tx es (pos, n) (pos', q.2) ∧ pos' ≤ tx.length ∧ restAt tx pos' = q.1
  | [], pos, n, q, hp, h => by cases h; exact ⟨pos, rfl, hp, rfl⟩
  | e :: es, pos, n, q, hp, ⟨h1, h2, h3, h4⟩ => by
    dsimp only at h1 h2 h3 h4
    have hl : (restAt tx pos).length = tx.length - pos := by
      unfold restAt
      simp [Str.length]
    have hd : (restAt tx pos).drop (outer (restAt tx pos)).cons = restAt tx (pos + (outer (restAt tx pos)).cons) := by
      unfold restAt
      rw [List.drop_drop]
    rw [hd] at h4
    obtain ⟨pos', g1, g2, g3⟩ := rd_of (tx := tx) (by (run_tac om)) h4
    exact ⟨pos', ⟨h1, h2, by dsimp only; (run_tac om), g1⟩, g2, g3⟩
structure CutsAt (cv : List Int) (ln : List Nat) : Prop where
  nd : cv.Nodup
  bl : ∀ c ∈ cv, ∃ i : Nat, c = (i : Int) ∧ ∃ x, ln[i]? = some x ∧ (x = 32 ∨ x = 9)
noncomputable def txt (cv : List Int) (ln : List Nat) (p : Nat) : List Nat := insL cv p (ln.drop p)
noncomputable def rowN (cv : List Int) (p : Nat) : Int := 1 + (cntC cv ((p : Int) - 1) : Int)
theorem cnt_succ {cv : List Int} (hn : cv.Nodup) (p : Int) : cntC cv p = cntC cv (p - 1) + (if p ∈ cv then 1 else 0) := by
  run_tac sq0
  (
  induction cv with
  | nil => rfl
  | cons x cv ih =>
    obtain ⟨h1, h2⟩ := List.nodup_cons.mp hn
    have ih := ih h2
    by_cases hx : x = p
    · subst hx
      rw [cnt_yes (Int.le_refl x), cnt_no (by (run_tac om)), if_pos (.head _), ih, if_neg h1]
      (run_tac om)
    · have hm : (p ∈ x :: cv) ↔ p ∈ cv := ⟨fun h => (List.mem_cons.mp h).elim (fun h => absurd h.symm hx) id, fun h => .tail _ h⟩
      by_cases hl : x ≤ p
      · rw [cnt_yes hl, cnt_yes (by (run_tac om) : x ≤ p - 1), ih]
        by_cases hp : p ∈ cv
        · rw [if_pos hp, if_pos (hm.mpr hp)]; (run_tac om)
        · rw [if_neg hp, if_neg (fun h => hp (hm.mp h))]; (run_tac om)
      · rw [cnt_no hl, cnt_no (by (run_tac om) : ¬ x ≤ p - 1), ih]
        by_cases hp : p ∈ cv
        · rw [if_pos hp, if_pos (hm.mpr hp)]
        · rw [if_neg hp, if_neg (fun h => hp (hm.mp h))]
  )
  run_tac sq
section
variable {cv : List Int} {ln : List Nat} (hC : CutsAt cv ln) {p : Nat} {c : Nat} {l : List Nat}
include hC
theorem row_yes (h : (p : Int) ∈ cv) : rowN cv (p + 1) = rowN cv p + 1 := by
  unfold rowN
  have := cnt_succ hC.nd (p : Int)
  rw [if_pos h] at this
  rw [show ((p + 1 : Nat) : Int) - 1 = (p : Int) by (run_tac om), this]
  (run_tac om)
theorem row_no (h : ¬ (p : Int) ∈ cv) : rowN cv (p + 1) = rowN cv p := by
  unfold rowN
  have := cnt_succ hC.nd (p : Int)
  rw [if_neg h] at this
  rw [show ((p + 1 : Nat) : Int) - 1 = (p : Int) by (run_tac om), this]
  (run_tac om)
theorem cut_bl (hd : ln.drop p = c :: l) (h : (p : Int) ∈ cv) : c = 32 ∨ c = 9 := by
  obtain ⟨i, hi, x, hx, hb⟩ := hC.bl _ h
  have : i = p := by (run_tac om)
  subst this
  rw [(at_of hd).1] at hx
  rw [Option.some.inj hx]
  exact hb
theorem cut_end (hd : ln.drop p = []) : ¬ (p : Int) ∈ cv := by
  intro h
  obtain ⟨i, hi, x, hx, hb⟩ := hC.bl _ h
  have : i = p := by (run_tac om)
  subst this
  rw [end_of hd] at hx
  cases hx
omit hC in
theorem txt_no (hd : ln.drop p = c :: l) (h : ¬ (p : Int) ∈ cv) : txt cv ln p = c :: txt cv ln (p + 1) := by
  unfold txt
  rw [hd, insL_no h, (at_of hd).2]
omit hC in
theorem txt_yes (hd : ln.drop p = c :: l) (h : (p : Int) ∈ cv) : txt cv ln p = 10 :: c :: txt cv ln (p + 1) := by
  unfold txt
  rw [hd, insL_yes h, (at_of hd).2]
omit hC in
theorem txt_end (hd : ln.drop p = []) : txt cv ln p = [] := by
  unfold txt
  rw [hd]
  rfl
theorem sep_rd (hd : ln.drop p = c :: l) (hc : c = 32 ∨ c = 9) : RdW [] (txt cv ln p, rowN cv p) (txt cv ln (p + 1), rowN cv (p + 1)) := by
  run_tac sq0
  have hw : isWs c = true := by rcases hc with rfl | rfl <;> rfl
  have hn : nl c = 0 := by rcases hc with rfl | rfl <;> rfl
  by_cases h : (p : Int) ∈ cv
  · rw [txt_yes hd h, row_yes hC h]
    refine RdW_ws (ws := [10, c]) (l := txt cv ln (p + 1)) (m := rowN cv p + 1) (fun x hx => ?_) ?_ (RdW_nil _)
    · simp only [List.mem_cons, List.not_mem_nil, or_false] at hx
      rcases hx with rfl | rfl
      · rfl
      · exact hw
    · have : nlsL [10, c] = 1 := by simp only [nlsL, List.map_cons, List.map_nil, List.sum_cons, List.sum_nil, hn]; rfl
      rw [this]; rfl
  · rw [txt_no hd h, row_no hC h]
    refine RdW_ws (ws := [c]) (l := txt cv ln (p + 1)) (m := rowN cv p) (fun x hx => ?_) ?_ (RdW_nil _)
    · rw [List.mem_singleton.mp hx]; exact hw
    · have : nlsL [c] = 0 := by simp [nlsL, hn]
      rw [this]; simp
  run_tac sq
end
end Mine
end -- Q1
section -- Q2
set_option backward.match.sparseCases false
set_option genSizeOf false
set_option genInjectivity false
open PySem PySem.W PySem.W.X PySem.Builtin PySem.Builtin.Str
namespace Mine
noncomputable def signs (w : List Nat) : Prop := ∀ c ∈ w, c = 120 ∨ c = 32 ∨ c = 34 ∨ c = 92
noncomputable def escs (w : List Nat) (m : Int) : List Nat := (w.map fun c => esc c m).flatten
theorem escs_cons (c : Nat) (w : List Nat) (m : Int) : escs (c :: w) m = esc c m ++ escs w m := rfl
theorem bare_x (m : Int) : bareB 120 m = true := rfl
theorem bare_0 {c : Nat} (h : c ≠ 120) : bareB c 0 = false := by
  unfold bareB
  have : (c == 120) = false := by simpa using h
  rw [this]
  simp
theorem bare_q {c : Nat} {m : Int} (h : c = 34 ∨ c = 92) : bareB c m = false := by rcases h with rfl | rfl <;> rfl
noncomputable def lastE (cv : List Int) (S : DS) : List (List Nat × Int) := if S.tok = [] then S.ent else S.ent ++ [(S.tok, 1 + (cntC cv S.place : Int))]
theorem stepD_ent (cv : List Int) (m : Int) (e : List (List Nat × Int)) (t : List Nat) (p : Int) (c : Nat) : stepD cv m ⟨e, t, p⟩ c = ⟨e ++ (stepD cv m ⟨[], t, p⟩ c).ent, (stepD cv m ⟨[], t, p⟩ c).tok, (stepD cv m ⟨[], t, p⟩ c).place⟩ := by
  unfold stepD
  dsimp only
  generalize (if bareB c m = true then p else p + 1) = p'
  split
  · split <;> simp
  · simp
theorem foldD_ent (cv : List Int) (m : Int) : ∀ (w : List Nat) (e : List (List Nat × Int)) (t : List Nat) (p : Int), w.foldl (stepD cv m) ⟨e, t, p⟩ = ⟨e ++ (w.foldl (stepD cv m) ⟨[], t, p⟩).ent, (w.foldl (stepD cv m) ⟨[], t, p⟩).tok, (w.foldl (stepD cv m) ⟨[], t, p⟩).place⟩
  | [], e, t, p => by simp
  | c :: w, e, t, p => by
    rw [List.foldl_cons, List.foldl_cons, stepD_ent cv m e t p c]
    obtain ⟨e', t', p'⟩ := stepD cv m ⟨[], t, p⟩ c
    dsimp only
    rw [foldD_ent cv m w (e ++ e'), foldD_ent cv m w e']
    simp
theorem lastE_ent (cv : List Int) (e : List (List Nat × Int)) (S : DS) : lastE cv ⟨e ++ S.ent, S.tok, S.place⟩ = e ++ lastE cv S := by
  unfold lastE
  dsimp only
  split <;> simp
section
variable {cv : List Int} {ln : List Nat} (hC : CutsAt cv ln)
include hC
theorem plain_rd : ∀ (w : List Nat) (p : Nat) (acc rest : List Nat), signs w → ln.drop p = escs w 0 ++ rest → (rest = [] ∨ ∃ c l, rest = c :: l ∧ (c = 32 ∨ c = 9)) →
    (acc = [] → RdW (lastE cv (w.foldl (stepD cv 0) ⟨[], [], (p : Int)⟩)) (txt cv ln p, rowN cv p) (txt cv ln (p + (escs w 0).length + (if rest = [] then 0 else 1)), rowN cv (p + (escs w 0).length + (if rest = [] then 0 else 1)))) ∧
    (acc ≠ [] → InT isWs acc (txt cv ln p) (rowN cv p) (lastE cv (w.foldl (stepD cv 0) ⟨[], acc, (p : Int)⟩)) (txt cv ln (p + (escs w 0).length + (if rest = [] then 0 else 1)), rowN cv (p + (escs w 0).length + (if rest = [] then 0 else 1)))) ∧
    (w.foldl (stepD cv 0) ⟨[], acc, (p : Int)⟩).place = (p : Int) + ((escs w 0).length : Int)
  | [], p, acc, rest, hs, hd, hr => by
    have hd : ln.drop p = rest := hd
    have e0 : (escs [] 0).length = 0 := rfl
    rw [e0]
    refine ⟨fun ha => ?_, fun ha => ?_, ?_⟩
    · rcases hr with rfl | ⟨c, l, rfl, hc⟩
      · exact RdW_nil _
      · rw [if_neg (List.cons_ne_nil _ _)]
        exact sep_rd hC hd hc
    · have hE : lastE cv (([] : List Nat).foldl (stepD cv 0) ⟨[], acc, (p : Int)⟩) = [(acc, 1 + (cntC cv p : Int))] := by
        show lastE cv ⟨[], acc, (p : Int)⟩ = _
        unfold lastE
        rw [if_neg ha]
        rfl
      rw [hE]
      have hk : 1 + (cntC cv (p : Int) : Int) = rowN cv (p + 1) := by
        unfold rowN
        rw [show ((p + 1 : Nat) : Int) - 1 = (p : Int) by (run_tac om)]
      rw [hk]
      rcases hr with rfl | ⟨c, l, rfl, hc⟩
      · have e1 : p + 0 + (if ([] : List Nat) = [] then 0 else 1) = p := rfl
        rw [e1, txt_end hd, row_no hC (cut_end hC hd)]
        exact InT.fin
      · rw [if_neg (List.cons_ne_nil _ _)]
        have hw : isWs c = true := by rcases hc with rfl | rfl <;> rfl
        have hn : nl c = 0 := by rcases hc with rfl | rfl <;> rfl
        show InT isWs acc _ _ _ (txt cv ln (p + 1), rowN cv (p + 1))
        by_cases h : (p : Int) ∈ cv
        · rw [txt_yes hd h]
          refine InT.stop (c := 10) rfl (by rw [row_yes hC h]; rfl) ?_
          refine RdW_ws (ws := [c]) (l := txt cv ln (p + 1)) (m := rowN cv (p + 1)) (fun x hx => by rw [List.mem_singleton.mp hx]; exact hw) ?_ (RdW_nil _)
          simp [nlsL, hn]
        · rw [txt_no hd h]
          exact InT.stop hw (by rw [row_no hC h, hn]; simp) (RdW_nil _)
    · show (p : Int) = p + ((0 : Nat) : Int)
      (run_tac om)
  | c :: w, p, acc, rest, hs, hd, hr => by
    have hs' : signs w := fun x hx => hs x (.tail _ hx)
    rw [escs_cons] at hd ⊢
    rcases hs c (.head _) with rfl | h
    · -- bare
      rw [esc_yes (bare_x 0)] at hd ⊢
      have hd1 : ln.drop p = 120 :: (escs w 0 ++ rest) := hd
      have hno : ¬ (p : Int) ∈ cv := fun h => by rcases cut_bl hC hd1 h with h | h <;> (run_tac om)
      have hd2 := (at_of hd1).2
      have hst : ∀ t, stepD cv 0 ⟨[], t, (p : Int)⟩ 120 = ⟨[], t ++ [120], ((p + 1 : Nat) : Int)⟩ := fun t => (stepD_a (S := ⟨[], t, (p : Int)⟩) (if_pos (bare_x 0)) (.inl (by decide))).trans (by simp)
      obtain ⟨i1, i2, i3⟩ := plain_rd w (p + 1) (acc ++ [120]) rest hs' hd2 hr
      have i2 := i2 (by simp)
      have hl : ([120] ++ escs w 0).length = 1 + (escs w 0).length := by simp; (run_tac om)
      rw [hl]
      simp only [List.foldl_cons, hst]
      rw [show p + (1 + (escs w 0).length) + (if rest = [] then 0 else 1) = p + 1 + (escs w 0).length + (if rest = [] then 0 else 1) by (run_tac om)]
      refine ⟨fun ha => ?_, fun ha => ?_, by rw [i3]; push_cast; (run_tac om)⟩
      · subst ha
        rw [txt_no hd1 hno]
        rw [row_no hC hno] at i2
        exact i2.rd (j := 1) (i := 0) (by rw [outer_u 120 _ rfl (by decide) (by decide)]; rfl) rfl (by simp; (run_tac om)) (by simp)
      · rw [txt_no hd1 hno]
        exact InT.one rfl (by decide) (by rw [row_no hC hno]; simp [nl]) i2
    · -- behind a backslash
      have hb : bareB c 0 = false := bare_0 (by rcases h with rfl | rfl | rfl <;> decide)
      rw [esc_no hb] at hd ⊢
      have hd1 : ln.drop p = 92 :: c :: (escs w 0 ++ rest) := hd
      have hno : ¬ (p : Int) ∈ cv := fun h => by rcases cut_bl hC hd1 h with h | h <;> (run_tac om)
      have hd2 := (at_of hd1).2
      have hd3 := (at_of hd2).2
      have hl : ([92, c] ++ escs w 0).length = 2 + (escs w 0).length := by simp; (run_tac om)
      rw [hl]
      simp only [List.foldl_cons]
      rw [show p + (2 + (escs w 0).length) + (if rest = [] then 0 else 1) = p + 1 + 1 + (escs w 0).length + (if rest = [] then 0 else 1) by (run_tac om)]
      have hpl : ∀ t, (if bareB c 0 = true then (⟨[], t, (p : Int)⟩ : DS).place else (⟨[], t, (p : Int)⟩ : DS).place + 1) = ((p + 1 : Nat) : Int) := fun t => by rw [if_neg (by rw [hb]; exact Bool.noConfusion)]; simp
      by_cases hcut : ((p + 1 : Nat) : Int) ∈ cv
      · -- torn
        have hc32 : c = 32 := by
          rcases cut_bl hC hd2 hcut with h' | h'
          · exact h'
          · rcases h with rfl | rfl | rfl <;> (run_tac om)
        subst hc32
        have hst : ∀ t, stepD cv 0 ⟨[], t, (p : Int)⟩ 32 = ⟨[(t ++ [10], 1 + (cntC cv ((p + 1 : Nat) : Int) : Int))], [], ((p + 1 + 1 : Nat) : Int)⟩ := fun t => (stepD_b (S := ⟨[], t, (p : Int)⟩) (hpl t) hcut rfl).trans (by simp)
        obtain ⟨i1, _, i3⟩ := plain_rd w (p + 1 + 1) [] rest hs' hd3 hr
        have i1 := i1 rfl
        have hk : 1 + (cntC cv ((p + 1 : Nat) : Int) : Int) = rowN cv (p + 1 + 1) := by
          unfold rowN
          rw [show ((p + 1 + 1 : Nat) : Int) - 1 = ((p + 1 : Nat) : Int) by (run_tac om)]
        have hr1 : rowN cv (p + 1 + 1) = rowN cv p + 1 := by rw [row_yes hC hcut, row_no hC hno]
        have hT : ∀ acc', InT isWs (acc' ++ [10]) (32 :: txt cv ln (p + 1 + 1)) (rowN cv p + 1) ([(acc' ++ [10], 1 + (cntC cv ((p + 1 : Nat) : Int) : Int))] ++ lastE cv (w.foldl (stepD cv 0) ⟨[], [], ((p + 1 + 1 : Nat) : Int)⟩)) (txt cv ln (p + 1 + 1 + (escs w 0).length + (if rest = [] then 0 else 1)), rowN cv (p + 1 + 1 + (escs w 0).length + (if rest = [] then 0 else 1))) := fun acc' => by
          rw [hk]
          exact InT.stop (c := 32) rfl (by rw [hr1]; rfl) i1
        have hE : ∀ t, lastE cv (w.foldl (stepD cv 0) (stepD cv 0 ⟨[], t, (p : Int)⟩ 32)) = [(t ++ [10], 1 + (cntC cv ((p + 1 : Nat) : Int) : Int))] ++ lastE cv (w.foldl (stepD cv 0) ⟨[], [], ((p + 1 + 1 : Nat) : Int)⟩) := fun t => by
          rw [hst, foldD_ent, lastE_ent]
        refine ⟨fun ha => ?_, fun ha => ?_, ?_⟩
        · subst ha
          rw [hE]
          rw [txt_no hd1 hno, txt_yes hd2 hcut]
          exact (hT []).rd (j := 2) (i := 1) (by rw [outer_b 10]; rfl) rfl (by simp; (run_tac om)) (by simp)
        · rw [hE, txt_no hd1 hno, txt_yes hd2 hcut]
          exact InT.two rfl rfl (hT acc)
        · rw [hst, foldD_ent]
          dsimp only
          rw [i3]
          push_cast
          (run_tac om)
      · have hst : ∀ t, stepD cv 0 ⟨[], t, (p : Int)⟩ c = ⟨[], t ++ [c], ((p + 1 + 1 : Nat) : Int)⟩ := fun t => (stepD_a (S := ⟨[], t, (p : Int)⟩) (hpl t) (.inr hcut)).trans (by simp)
        obtain ⟨_, i2, i3⟩ := plain_rd w (p + 1 + 1) (acc ++ [c]) rest hs' hd3 hr
        have i2 := i2 (by simp)
        have hr1 : rowN cv (p + 1 + 1) = rowN cv p := by rw [row_no hC hcut, row_no hC hno]
        have hn : nl c = 0 := by rcases h with rfl | rfl | rfl <;> rfl
        rw [hr1] at i2
        simp only [hst]
        refine ⟨fun ha => ?_, fun ha => ?_, by rw [i3]; push_cast; (run_tac om)⟩
        · subst ha
          rw [txt_no hd1 hno, txt_no hd2 hcut]
          exact i2.rd (j := 2) (i := 0) (by rw [outer_b c, hn]; rfl) rfl (by simp; (run_tac om)) (by simp)
        · rw [txt_no hd1 hno, txt_no hd2 hcut]
          exact InT.two rfl (by rw [hn]; simp) i2
theorem quote_rd {m : Int} (hm : m ≠ 0) : ∀ (w : List Nat) (p : Nat) (acc rest : List Nat) (q : List Nat × Int), signs w → ln.drop p = escs w m ++ 34 :: rest → RdW [] (txt cv ln (p + (escs w m).length + 1), rowN cv (p + (escs w m).length + 1)) q →
    (w.foldl (stepD cv m) ⟨[], acc, (p : Int)⟩).place = (p : Int) + ((escs w m).length : Int) ∧ (w.foldl (stepD cv m) ⟨[], acc, (p : Int)⟩).ent = [] ∧ (acc ≠ [] ∨ w ≠ [] → (w.foldl (stepD cv m) ⟨[], acc, (p : Int)⟩).tok ≠ []) ∧
    InT isQ acc (txt cv ln p) (rowN cv p) [((w.foldl (stepD cv m) ⟨[], acc, (p : Int)⟩).tok, 1 + (cntC cv ((p : Int) + ((escs w m).length : Int)) : Int))] q
  | [], p, acc, rest, q, hs, hd, hq => by
    have hd : ln.drop p = 34 :: rest := hd
    have hno : ¬ (p : Int) ∈ cv := fun h => by rcases cut_bl hC hd h with h | h <;> (run_tac om)
    have e0 : (escs [] m).length = 0 := rfl
    rw [e0] at hq ⊢
    have hk : 1 + (cntC cv ((p : Int) + ((0 : Nat) : Int)) : Int) = rowN cv (p + 1) := by
      unfold rowN
      rw [show ((p + 1 : Nat) : Int) - 1 = (p : Int) + ((0 : Nat) : Int) by (run_tac om)]
    rw [hk]
    refine ⟨by show (p : Int) = p + ((0 : Nat) : Int); (run_tac om), rfl, fun h => h.elim id fun h => absurd rfl h, ?_⟩
    rw [txt_no hd hno]
    exact InT.stop rfl (by rw [row_no hC hno]; simp [nl]) hq
  | c :: w, p, acc, rest, q, hs, hd, hq => by
    have hs' : signs w := fun x hx => hs x (.tail _ hx)
    rw [escs_cons] at hd hq ⊢
    have hc := hs c (.head _)
    have hn : nl c = 0 := by rcases hc with rfl | rfl | rfl | rfl <;> rfl
    cases hb : bareB c m with
    | true =>
      rw [esc_yes hb] at hd hq ⊢
      have hd1 : ln.drop p = c :: (escs w m ++ 34 :: rest) := by rw [hd]; simp
      have hd2 := (at_of hd1).2
      have hl : ([c] ++ escs w m).length = 1 + (escs w m).length := by simp; (run_tac om)
      rw [hl] at hq ⊢
      rw [show p + (1 + (escs w m).length) + 1 = p + 1 + (escs w m).length + 1 by (run_tac om)] at hq
      rw [show (p : Int) + ((1 + (escs w m).length : Nat) : Int) = ((p + 1 : Nat) : Int) + ((escs w m).length : Int) by (run_tac om)]
      have hpl : ∀ t, (if bareB c m = true then (⟨[], t, (p : Int)⟩ : DS).place else (⟨[], t, (p : Int)⟩ : DS).place + 1) = (p : Int) := fun t => if_pos hb
      rw [List.foldl_cons]
      have hc34 : c = 120 ∨ c = 32 := by
        rcases hc with rfl | rfl | h
        · exact .inl rfl
        · exact .inr rfl
        · rw [bare_q h] at hb; cases hb
      have hQ : isQ c = false := by rcases hc34 with rfl | rfl <;> rfl
      have h92 : c ≠ 92 := by rcases hc34 with rfl | rfl <;> decide
      by_cases hcut : (p : Int) ∈ cv
      · have hc32 : c = 32 := by
          rcases cut_bl hC hd1 hcut with h' | h'
          · exact h'
          · (run_tac om)
        subst hc32
        have hst : stepD cv m ⟨[], acc, (p : Int)⟩ 32 = ⟨[], acc ++ [10] ++ [32], ((p + 1 : Nat) : Int)⟩ := (stepD_c (S := ⟨[], acc, (p : Int)⟩) (hpl acc) hcut hm).trans (by simp)
        rw [hst]
        obtain ⟨i1, i2, i3, i4⟩ := quote_rd hm w (p + 1) (acc ++ [10] ++ [32]) rest q hs' hd2 hq
        refine ⟨i1, i2, fun _ => i3 (.inl (by simp)), ?_⟩
        rw [txt_yes hd1 hcut]
        rw [row_yes hC hcut] at i4
        exact InT.one rfl (by decide) rfl (InT.one (m := rowN cv p + 1) rfl (by decide) (by simp [nl]) i4)
      · have hst : stepD cv m ⟨[], acc, (p : Int)⟩ c = ⟨[], acc ++ [c], ((p + 1 : Nat) : Int)⟩ := (stepD_a (S := ⟨[], acc, (p : Int)⟩) (hpl acc) (.inr hcut)).trans (by simp)
        rw [hst]
        obtain ⟨i1, i2, i3, i4⟩ := quote_rd hm w (p + 1) (acc ++ [c]) rest q hs' hd2 hq
        refine ⟨i1, i2, fun _ => i3 (.inl (by simp)), ?_⟩
        rw [txt_no hd1 hcut]
        rw [row_no hC hcut] at i4
        exact InT.one hQ h92 (by rw [hn]; simp) i4
    | false =>
      rw [esc_no hb] at hd hq ⊢
      have hd1 : ln.drop p = 92 :: c :: (escs w m ++ 34 :: rest) := by rw [hd]; simp
      have hd2 := (at_of hd1).2
      have hd3 := (at_of hd2).2
      have hno : ¬ (p : Int) ∈ cv := fun h => by rcases cut_bl hC hd1 h with h | h <;> (run_tac om)
      have hl : ([92, c] ++ escs w m).length = 2 + (escs w m).length := by simp; (run_tac om)
      rw [hl] at hq ⊢
      rw [show p + (2 + (escs w m).length) + 1 = p + 1 + 1 + (escs w m).length + 1 by (run_tac om)] at hq
      rw [show (p : Int) + ((2 + (escs w m).length : Nat) : Int) = ((p + 1 + 1 : Nat) : Int) + ((escs w m).length : Int) by (run_tac om)]
      have hpl : ∀ t, (if bareB c m = true then (⟨[], t, (p : Int)⟩ : DS).place else (⟨[], t, (p : Int)⟩ : DS).place + 1) = ((p + 1 : Nat) : Int) := fun t => by rw [if_neg (by rw [hb]; exact Bool.noConfusion)]; simp
      rw [List.foldl_cons]
      by_cases hcut : ((p + 1 : Nat) : Int) ∈ cv
      · have hc32 : c = 32 := by
          rcases cut_bl hC hd2 hcut with h' | h'
          · exact h'
          · (run_tac om)
        subst hc32
        have hst : stepD cv m ⟨[], acc, (p : Int)⟩ 32 = ⟨[], acc ++ [10] ++ [32], ((p + 1 + 1 : Nat) : Int)⟩ := (stepD_c (S := ⟨[], acc, (p : Int)⟩) (hpl acc) hcut hm).trans (by simp)
        rw [hst]
        obtain ⟨i1, i2, i3, i4⟩ := quote_rd hm w (p + 1 + 1) (acc ++ [10] ++ [32]) rest q hs' hd3 hq
        refine ⟨i1, i2, fun _ => i3 (.inl (by simp)), ?_⟩
        rw [txt_no hd1 hno, txt_yes hd2 hcut]
        rw [row_yes hC hcut, row_no hC hno] at i4
        exact InT.two rfl rfl (InT.one (m := rowN cv p + 1) rfl (by decide) (by simp [nl]) i4)
      · have hst : stepD cv m ⟨[], acc, (p : Int)⟩ c = ⟨[], acc ++ [c], ((p + 1 + 1 : Nat) : Int)⟩ := (stepD_a (S := ⟨[], acc, (p : Int)⟩) (hpl acc) (.inr hcut)).trans (by simp)
        rw [hst]
        obtain ⟨i1, i2, i3, i4⟩ := quote_rd hm w (p + 1 + 1) (acc ++ [c]) rest q hs' hd3 hq
        refine ⟨i1, i2, fun _ => i3 (.inl (by simp)), ?_⟩
        rw [txt_no hd1 hno, txt_no hd2 hcut]
        rw [row_no hC hcut, row_no hC hno] at i4
        exact InT.two rfl (by rw [hn]; simp) i4
end
end Mine
end -- Q2
section -- Q3
set_option backward.match.sparseCases false
set_option genSizeOf false
set_option genInjectivity false
open PySem PySem.W PySem.W.X PySem.Builtin PySem.Builtin.Str
namespace Mine
theorem writ_0 (w : List Nat) : writ w 0 = escs w 0 := rfl
theorem writ_q {w : List Nat} {m : Int} (h : m ≠ 0) : writ w m = 34 :: (escs w m ++ [34]) := if_neg h
theorem wordD_lastE (cv : List Int) (w : List Nat) (m : Int) (E : List (List Nat × Int)) (p : Int) : wordD cv w m (E, p) = (E ++ lastE cv (w.foldl (stepD cv m) ⟨[], [], if 0 < m then p + 1 else p⟩), (if 0 < m then (w.foldl (stepD cv m) ⟨[], [], if 0 < m then p + 1 else p⟩).place + 1 else (w.foldl (stepD cv m) ⟨[], [], if 0 < m then p + 1 else p⟩).place) + 1) := by
  unfold wordD
  dsimp only
  rw [foldD_ent]
  have := lastE_ent cv E (w.foldl (stepD cv m) ⟨[], [], if 0 < m then p + 1 else p⟩)
  unfold lastE at this ⊢
  dsimp only at this ⊢
  rw [this]
section
variable {cv : List Int} {ln : List Nat} (hC : CutsAt cv ln)
include hC
theorem word_rd {w : List Nat} {m : Int} {p c : Nat} {l : List Nat} (hw : signs w) (hw0 : w ≠ []) (hm : 0 ≤ m) (hd : ln.drop p = writ w m ++ c :: l) (hc : c = 32 ∨ c = 9) (E : List (List Nat × Int)) :
    ∃ E', wordD cv w m (E, (p : Int)) = (E ++ E', ((p + (writ w m).length + 1 : Nat) : Int)) ∧ RdW E' (txt cv ln p, rowN cv p) (txt cv ln (p + (writ w m).length + 1), rowN cv (p + (writ w m).length + 1)) := by
  run_tac sq0
  rw [wordD_lastE]
  by_cases h0 : m = 0
  · subst h0
    rw [writ_0] at hd ⊢
    obtain ⟨i1, _, i3⟩ := plain_rd hC w p [] (c :: l) hw hd (.inr ⟨c, l, rfl, hc⟩)
    have i1 := i1 rfl
    rw [if_neg (List.cons_ne_nil _ _)] at i1
    refine ⟨_, ?_, i1⟩
    rw [if_neg (by (run_tac om)), if_neg (by (run_tac om)), i3]
    congr 1
  · have hm' : 0 < m := by (run_tac om)
    rw [writ_q h0] at hd ⊢
    have hd1 : ln.drop p = 34 :: (escs w m ++ 34 :: (c :: l)) := by rw [hd]; simp
    have hno : ¬ (p : Int) ∈ cv := fun h => by rcases cut_bl hC hd1 h with h | h <;> (run_tac om)
    have hd2 := (at_of hd1).2
    have hd3 : ln.drop (p + 1 + (escs w m).length + 1) = c :: l := by
      have : ln.drop (p + 1 + ((escs w m).length + 1)) = (ln.drop (p + 1)).drop ((escs w m).length + 1) := by rw [List.drop_drop]
      rw [show p + 1 + (escs w m).length + 1 = p + 1 + ((escs w m).length + 1) by (run_tac om), this, hd2, List.drop_append, List.drop_eq_nil_of_le (by (run_tac om))]
      simp
    have hl : (34 :: (escs w m ++ [34])).length = (escs w m).length + 2 := by simp
    rw [hl, show p + ((escs w m).length + 2) + 1 = p + 1 + (escs w m).length + 1 + 1 by (run_tac om)]
    obtain ⟨i1, i2, i3, i4⟩ := quote_rd hC h0 w (p + 1) [] (c :: l) _ hw hd2 (sep_rd hC hd3 hc)
    have i3 := i3 (.inr hw0)
    rw [if_pos hm', if_pos hm', show (p : Int) + 1 = ((p + 1 : Nat) : Int) by (run_tac om)]
    refine ⟨_, by rw [i1]; congr 1, ?_⟩
    have hE : lastE cv (w.foldl (stepD cv m) ⟨[], [], ((p + 1 : Nat) : Int)⟩) = [((w.foldl (stepD cv m) ⟨[], [], ((p + 1 : Nat) : Int)⟩).tok, 1 + (cntC cv (((p + 1 : Nat) : Int) + ((escs w m).length : Int)) : Int))] := by
      unfold lastE
      rw [if_neg i3, i2, i1]
      rfl
    rw [hE, txt_no hd1 hno]
    rw [row_no hC hno] at i4
    exact i4.rd (j := 1) (i := 0) (by rw [outer_q]; rfl) rfl (by simp; (run_tac om)) (by simp)
  run_tac sq
theorem last_rd {p : Nat} (hd : ln.drop p = writ [120] 0) (E : List (List Nat × Int)) :
    ∃ E' y n, wordD cv [120] 0 (E, (p : Int)) = (E ++ E', y) ∧ E' ≠ [] ∧ RdW E' (txt cv ln p, rowN cv p) ([], n) := by
  run_tac sq0
  rw [wordD_lastE]
  obtain ⟨i1, _, _⟩ := plain_rd hC [120] p [] [] (fun c hc => .inl (List.mem_singleton.mp hc)) (by rw [hd, List.append_nil]; rfl) (.inl rfl)
  have i1 := i1 rfl
  have he : ln.drop (p + (escs [120] 0).length + (if ([] : List Nat) = [] then 0 else 1)) = [] := by
    have hd' : ln.drop p = 120 :: [] := hd
    exact (at_of hd').2
  rw [txt_end he] at i1
  refine ⟨_, _, _, rfl, ?_, i1⟩
  have hst : stepD cv 0 ⟨[], [], (p : Int)⟩ 120 = ⟨[], [] ++ [120], (p : Int) + 1⟩ := stepD_a (S := ⟨[], [], (p : Int)⟩) (if_pos (bare_x 0)) (.inl (by decide))
  show lastE cv (([120] : List Nat).foldl (stepD cv 0) ⟨[], [], (p : Int)⟩) ≠ []
  rw [List.foldl_cons, hst]
  unfold lastE
  simp
  run_tac sq
noncomputable def lineR : List ((List Nat × Int) × Nat) → List Nat
  | [] => writ [120] 0
  | (q, c) :: l => writ q.1 q.2 ++ c :: lineR l
theorem line_rd : ∀ (L : List ((List Nat × Int) × Nat)) (p : Nat) (E : List (List Nat × Int)), (∀ x ∈ L, signs x.1.1 ∧ x.1.1 ≠ [] ∧ 0 ≤ x.1.2 ∧ (x.2 = 32 ∨ x.2 = 9)) → ln.drop p = lineR L →
    ∃ E' y n, dueRun cv (L.map (·.1) ++ [([120], 0)]) (E, (p : Int)) = (E ++ E', y) ∧ E' ≠ [] ∧ RdW E' (txt cv ln p, rowN cv p) ([], n)
  | [], p, E, _, hd => by
    obtain ⟨E', y, n, h1, h2, h3⟩ := last_rd hC hd E
    exact ⟨E', y, n, h1, h2, h3⟩
  | ((w, m), c) :: L, p, E, hL, hd => by
    obtain ⟨h1, h2, h3, h4⟩ := hL _ (.head _)
    dsimp only at h1 h2 h3 h4
    have hd' : ln.drop p = writ w m ++ c :: lineR L := hd
    obtain ⟨E1, e1, r1⟩ := word_rd hC h1 h2 h3 hd' h4 E
    have hd2 : ln.drop (p + (writ w m).length + 1) = lineR L := by
      have : ln.drop (p + ((writ w m).length + 1)) = (ln.drop p).drop ((writ w m).length + 1) := by rw [List.drop_drop]
      rw [show p + (writ w m).length + 1 = p + ((writ w m).length + 1) by (run_tac om), this, hd', List.drop_append, List.drop_eq_nil_of_le (by (run_tac om))]
      simp
    obtain ⟨E2, y, n, g1, g2, g3⟩ := line_rd L (p + (writ w m).length + 1) (E ++ E1) (fun x hx => hL x (.tail _ hx)) hd2
    refine ⟨E1 ++ E2, y, n, ?_, fun h => g2 (List.append_eq_nil_iff.mp h).2, RdW_app r1 g3⟩
    show dueRun cv (L.map (·.1) ++ [([120], 0)]) (wordD cv w m (E, (p : Int))) = _
    rw [e1, g1, List.append_assoc]
theorem row_0 : rowN cv 0 = 1 := by
  run_tac sq0
  have : cntC cv (-1) = 0 := by
    have key : ∀ l : List Int, (∀ c ∈ l, 0 ≤ c) → cntC l (-1) = 0 := by
      intro l
      induction l with
      | nil => intro _; rfl
      | cons x l ih =>
        intro h
        rw [cnt_no (by have := h x (.head _); (run_tac om))]
        exact ih fun c hc => h c (.tail _ hc)
    refine key cv fun c hc => ?_
    obtain ⟨i, rfl, _⟩ := hC.bl c hc
    (run_tac om)
  unfold rowN
  show 1 + (cntC cv (-1) : Int) = 1
  rw [this]
  rfl
  run_tac sq
end
noncomputable def linSeps (N : NS) : List ((List Nat × Int) × Nat) := [((wl N.n0, mnOf N.n0), 32), ((wl N.n1, mnOf N.n1), 9), ((wl N.n2, mnOf N.n2), 32), ((wl N.n3, mnOf N.n3), 9)]
theorem line_is (N : NS) : lineL N = lineR (linSeps N) := by
  unfold lineL lineP linSeps lineR lineR lineR lineR lineR
  simp
theorem wlN_is (N : NS) : wlN N = (linSeps N).map (·.1) ++ [([120], 0)] := rfl
theorem seps_ok (N : NS) : ∀ x ∈ linSeps N, signs x.1.1 ∧ x.1.1 ≠ [] ∧ 0 ≤ x.1.2 ∧ (x.2 = 32 ∨ x.2 = 9) := by
  run_tac sq0
  have hm : ∀ n, 0 ≤ mnOf n := fun n => Int.fmod_nonneg_of_pos _ (by decide)
  have hn : ∀ n, wl n ≠ [] := fun n => List.cons_ne_nil _ _
  intro x hx
  unfold linSeps at hx
  simp only [List.mem_cons, List.not_mem_nil, or_false] at hx
  rcases hx with rfl | rfl | rfl | rfl
  · exact ⟨wl_or _, hn _, hm _, .inl rfl⟩
  · exact ⟨wl_or _, hn _, hm _, .inr rfl⟩
  · exact ⟨wl_or _, hn _, hm _, .inl rfl⟩
  · exact ⟨wl_or _, hn _, hm _, .inr rfl⟩
  run_tac sq
theorem due_rd {cv : List Int} (N : NS) (hC : CutsAt cv (lineL N)) : (dueRun cv (wlN N) ([], 0)).1 ≠ [] ∧ ∃ q, Rd ⟨⟨insL cv 0 (lineL N)⟩⟩ (dueRun cv (wlN N) ([], 0)).1 (0, 1) q ∧ q.1 ≤ (insL cv 0 (lineL N)).length ∧ (outer (restAt ⟨⟨insL cv 0 (lineL N)⟩⟩ q.1)).tok = [] ∧ q.1 + (outer (restAt ⟨⟨insL cv 0 (lineL N)⟩⟩ q.1)).cons = (insL cv 0 (lineL N)).length := by
  run_tac sq0
  obtain ⟨E', y, n, h1, h2, ws, m, hw, h3, _⟩ := line_rd hC (linSeps N) 0 [] (seps_ok N) (line_is N)
  have e : (dueRun cv (wlN N) ([], 0)).1 = E' := by
    rw [wlN_is]
    have := congrArg Prod.fst h1
    rw [List.nil_append] at this
    exact this
  rw [e]
  refine ⟨h2, ?_⟩
  rw [row_0 hC] at h3
  have h3' : RdL E' (restAt ⟨⟨insL cv 0 (lineL N)⟩⟩ 0, 1) (ws ++ [], m) := h3
  obtain ⟨pos, g1, g2, g3⟩ := rd_of (tx := ⟨⟨insL cv 0 (lineL N)⟩⟩) (Nat.zero_le _) h3'
  have ho := outer_white (l := []) hw
  dsimp only at g3
  refine ⟨(pos, m), g1, g2, ?_, ?_⟩ <;> dsimp only <;> rw [g3, ho]
  · rfl
  · have hl : (restAt ⟨⟨insL cv 0 (lineL N)⟩⟩ pos).length = (insL cv 0 (lineL N)).length - pos := by
      unfold restAt
      simp
    rw [g3, List.append_nil] at hl
    show pos + (0 + ws.length) = _
    have g2 : pos ≤ (insL cv 0 (lineL N)).length := g2
    (run_tac om)
  run_tac sq
end Mine
end -- Q3
section -- Q4
set_option backward.match.sparseCases false
set_option genSizeOf false
set_option genInjectivity false
open PySem PySem.W PySem.W.X PySem.Builtin PySem.Builtin.Str
namespace Mine
noncomputable def flatQ (l : List Pc) : List Nat := (l.map fun q => q.1 ++ q.2).flatten
theorem flatQ_app (a b : List Pc) : flatQ (a ++ b) = flatQ a ++ flatQ b := by unfold flatQ; rw [List.map_append, List.flatten_append]
theorem flatQ_one (q : Pc) : flatQ [q] = q.1 ++ q.2 := by simp [flatQ]
theorem allS_pc (l : List Pc) : (allS (l.map s2)).cps.toList = flatQ l := by
  rw [allS_list]
  unfold flatP flatQ
  rw [List.map_map]
  rfl
theorem size_pc (l : List Pc) : sizeOf2 (l.map s2) = (flatQ l).length := by
  induction l with
  | nil => rfl
  | cons q l ih =>
    have e : sizeOf2 ((q :: l).map s2) = q.1.length + q.2.length + sizeOf2 (l.map s2) := by
      unfold sizeOf2
      simp [s2, Str.length]
    rw [e, ih]
    unfold flatQ
    simp
    (run_tac om)
structure Good (l : List Pc) : Prop where
  bl : ∀ q ∈ l, ∀ c ∈ q.1, isBl c = true
  ne : ∀ q ∈ l, q.2 ≠ []
theorem bp_eq {sp : Nat} (hsp : sp = 32 ∨ sp = 120 ∨ sp = 92) {p q : Pc} (hq : ∀ c ∈ q.1, isBl c = true) : bpAt sp (s2 p) (s2 q) = breakB sp p q := by
  run_tac sq0
  unfold bpAt breakB s2
  dsimp only
  have h2 : (match p.2.getLast? with | none => false | some c => c == sp) = (p.2.getLast? == some sp) := by
    cases p.2.getLast? with
    | none => rfl
    | some c => show (c == sp) = (some c == some sp); simp
  have h1 : (match q.1 with | [] => false | c :: _ => sp == 32 && c == sp) = (q.1.head? == some sp) := by
    cases h : q.1 with
    | nil => rfl
    | cons c l =>
      show (sp == 32 && c == sp) = (some c == some sp)
      have hc : isBl c = true := hq c (by rw [h]; exact .head _)
      have hc' : c = 32 ∨ c = 9 := by
        unfold isBl at hc
        simpa using hc
      rcases hc' with rfl | rfl <;> rcases hsp with rfl | rfl | rfl <;> rfl
  exact congr (congrArg or h1) h2
  run_tac sq
noncomputable def nbk (sp : Nat) : List Pc → Prop
  | [] => True
  | [_] => True
  | p :: q :: l => breakB sp p q = false ∧ nbk sp (q :: l)
theorem nbk_snoc {sp : Nat} {q p : Pc} : ∀ {B : List Pc}, nbk sp B → B.getLast? = some p → breakB sp p q = false → nbk sp (B ++ [q])
  | [], _, h, _ => by cases h
  | [a], _, h, hb => by
    obtain rfl : a = p := by simpa using h
    exact ⟨hb, trivial⟩
  | a :: b :: l, ⟨h1, h2⟩, h, hb => ⟨h1, nbk_snoc h2 (by rw [← h]; rfl) hb⟩
theorem lastBp_pre {sp : Nat} {L M : List (Str × Str)} : ∀ {i : Nat}, i < L.length → lastBp sp (L ++ M) i = lastBp sp L i
  | 0, _ => rfl
  | i + 1, h => by
    have h1 : (L ++ M)[i]? = L[i]? := List.getElem?_append_left (by (run_tac om))
    have h2 : (L ++ M)[i + 1]? = L[i + 1]? := List.getElem?_append_left h
    unfold lastBp
    rw [h1, h2, lastBp_pre (by (run_tac om) : i < L.length)]
theorem lastBp_at {sp : Nat} (hsp : sp = 32 ∨ sp = 120 ∨ sp = 92) {A l : List Pc} {p q : Pc} (hq : ∀ c ∈ q.1, isBl c = true) : lastBp sp ((A ++ p :: q :: l).map s2) (A.length + 1) = if breakB sp p q = true then some (A.length + 1) else lastBp sp ((A ++ p :: q :: l).map s2) A.length := by
  have h1 : ((A ++ p :: q :: l).map s2)[A.length]? = some (s2 p) := by simp
  have h2 : ((A ++ p :: q :: l).map s2)[A.length + 1]? = some (s2 q) := by simp
  rw [lastBp.eq_def]
  dsimp only
  rw [h1, h2]
  dsimp only
  rw [bp_eq hsp hq]
theorem lastBp_nb {sp : Nat} (hsp : sp = 32 ∨ sp = 120 ∨ sp = 92) : ∀ (B A : List Pc) (b : Pc), Good (b :: B) → nbk sp (b :: B) → lastBp sp ((A ++ b :: B).map s2) (A.length + B.length) = lastBp sp ((A ++ b :: B).map s2) A.length
  | [], A, b, _, _ => rfl
  | q :: B, A, b, hg, ⟨h1, h2⟩ => by
    have hq : ∀ c ∈ q.1, isBl c = true := hg.bl q (.tail _ (.head _))
    have e : A ++ b :: q :: B = (A ++ [b]) ++ q :: B := by simp
    have ih := lastBp_nb hsp B (A ++ [b]) q ⟨fun x hx => hg.bl x (.tail _ hx), fun x hx => hg.ne x (.tail _ hx)⟩ h2
    rw [← e] at ih
    have el : (A ++ [b]).length = A.length + 1 := by simp
    rw [el] at ih
    rw [show A.length + (q :: B).length = A.length + 1 + B.length by simp; (run_tac om), ih, lastBp_at hsp hq, if_neg (by rw [h1]; exact Bool.noConfusion)]
noncomputable def rowsT (ls : List Str) : List Nat := (ls.map fun s => s.cps.toList ++ [10]).flatten
theorem rowsT_snoc (ls : List Str) (s : Str) : rowsT (ls ++ [s]) = rowsT ls ++ s.cps.toList ++ [10] := by
  unfold rowsT
  simp
theorem insL_app (cv : List Int) : ∀ (a b : List Nat) (k : Nat), insL cv k (a ++ b) = insL cv k a ++ insL cv (k + a.length) b
  | [], b, k => rfl
  | c :: a, b, k => by
    rw [List.cons_append, insL_cons, insL_cons, insL_app cv a b (k + 1), List.append_assoc]
    congr 3
    rw [List.length_cons]
    (run_tac om)
theorem insL_none {cv : List Int} : ∀ {l : List Nat} {k : Nat}, (∀ c ∈ cv, c < (k : Int)) → insL cv k l = l
  | [], k, _ => rfl
  | c :: l, k, h => by
    rw [insL_no (fun hm => by have := h _ hm; (run_tac om)), insL_none (fun c hc => by have := h c hc; push_cast; (run_tac om))]
theorem insL_le {cv : List Int} {b : Int} : ∀ {l : List Nat} {k : Nat}, (k : Int) + l.length ≤ b → insL (cv ++ [b]) k l = insL cv k l
  | [], k, _ => rfl
  | c :: l, k, h => by
    have h' : ((k + 1 : Nat) : Int) + l.length ≤ b := by rw [List.length_cons] at h; push_cast at h ⊢; (run_tac om)
    have hb : (k : Int) ≠ b := by rw [List.length_cons] at h; push_cast at h; (run_tac om)
    rw [insL_cons, insL_cons, insL_le h']
    congr 1
    have : (k : Int) ∈ cv ++ [b] ↔ (k : Int) ∈ cv := by simp [hb]
    by_cases hk : (k : Int) ∈ cv
    · rw [if_pos hk, if_pos (this.mpr hk)]
    · rw [if_neg hk, if_neg (fun h => hk (this.mp h))]
theorem insL_cut {cv : List Int} {P X : List Nat} {c : Nat} {b : Int} (hb : (P.length : Int) = b) (hcv : ∀ x ∈ cv, x < b) : insL (cv ++ [b]) 0 (P ++ c :: X) = insL cv 0 P ++ 10 :: c :: X := by
  run_tac sq0
  rw [insL_app, insL_le (by (run_tac om)), Nat.zero_add, insL_yes (by rw [hb]; simp), insL_none (l := X) (k := P.length + 1) (fun x hx => ?_)]
  rcases List.mem_append.mp hx with hx | hx
  · have := hcv x hx; push_cast; (run_tac om)
  · have : x = b := by simpa using hx
    push_cast; (run_tac om)
  run_tac sq
theorem insL_pre {cv : List Int} {P X : List Nat} (hcv : ∀ x ∈ cv, x < (P.length : Int)) : insL cv 0 (P ++ X) = insL cv 0 P ++ X := by
  rw [insL_app, Nat.zero_add, insL_none hcv]
structure FI (W : Int) (sp : Nat) (p : Pc) (S : BS) (ls : List Str) (A B : List Pc) (P1 : List Nat) : Prop where
  gd : Good (A ++ B)
  lst : B.getLast? = some p
  nb : nbk sp B
  szB : ((flatQ B).length : Int) = S.last.2
  beg : (P1.length : Int) = S.last.1
  pl : S.place = S.last.1 + S.last.2
  cvs : ∀ c ∈ (S.done.foldl (step2 W) ([], 0)).1, c < S.last.1
  srt : (S.done.foldl (step2 W) ([], 0)).1.Pairwise (· < ·)
  cvb : ∀ c ∈ (S.done.foldl (step2 W) ([], 0)).1, ∃ i : Nat, c = (i : Int) ∧ ∃ x, P1[i]? = some x ∧ (x = 32 ∨ x = 9)
  hd : P1 = [] ∨ ∃ x X, flatQ B = x :: X ∧ (x = 32 ∨ x = 9)
  st : ((S.done.foldl (step2 W) ([], 0)).2 = 0 ∧ ls = [] ∧ A = [] ∧ (S.done.foldl (step2 W) ([], 0)).1 = [] ∧ P1 = []) ∨
    (0 < (S.done.foldl (step2 W) ([], 0)).2 ∧ W < (S.done.foldl (step2 W) ([], 0)).2 + S.last.2 ∧ A = [] ∧ insL (S.done.foldl (step2 W) ([], 0)).1 0 P1 ++ [10] = rowsT ls ∧ P1 ≠ []) ∨
    (0 < (S.done.foldl (step2 W) ([], 0)).2 ∧ (S.done.foldl (step2 W) ([], 0)).2 + S.last.2 ≤ W ∧ (∃ A' a b B', A = A' ++ [a] ∧ B = b :: B' ∧ breakB sp a b = true) ∧ ((flatQ A).length : Int) = (S.done.foldl (step2 W) ([], 0)).2 ∧ insL (S.done.foldl (step2 W) ([], 0)).1 0 P1 = rowsT ls ++ flatQ A ∧ P1 ≠ [])
end Mine
end -- Q4
section -- Q5
set_option backward.match.sparseCases false
set_option genSizeOf false
set_option genInjectivity false
open PySem PySem.W PySem.W.X PySem.Builtin PySem.Builtin.Str
namespace Mine
theorem flat_pos {q : Pc} {B : List Pc} (hg : Good B) (h : q ∈ B) : 0 < (flatQ B).length := by
  run_tac sq0
  obtain ⟨a, b, rfl⟩ := List.append_of_mem h
  have : 0 < q.2.length := List.length_pos_iff.mpr (hg.ne q h)
  rw [flatQ_app]
  show 0 < (flatQ a ++ flatQ (q :: b)).length
  have e : flatQ (q :: b) = q.1 ++ q.2 ++ flatQ b := by simp [flatQ]
  rw [e]
  simp only [List.length_append]
  (run_tac om)
  run_tac sq
theorem Good.left {a b : List Pc} (h : Good (a ++ b)) : Good a := ⟨fun q hq => h.bl q (List.mem_append_left _ hq), fun q hq => h.ne q (List.mem_append_left _ hq)⟩
theorem Good.right {a b : List Pc} (h : Good (a ++ b)) : Good b := ⟨fun q hq => h.bl q (List.mem_append_right _ hq), fun q hq => h.ne q (List.mem_append_right _ hq)⟩
section
variable {W : Int} {sp : Nat} {p : Pc} {S : BS} {ls : List Str} {A B : List Pc} {P1 : List Nat}
structure Now (W : Int) (S : BS) (ls : List Str) (A B : List Pc) (P1 : List Nat) : Prop where
  row : (step2 W (S.done.foldl (step2 W) ([], 0)) S.last).2 = ((flatQ (A ++ B)).length : Int)
  pos : 0 < (step2 W (S.done.foldl (step2 W) ([], 0)) S.last).2
  tx : insL (step2 W (S.done.foldl (step2 W) ([], 0)) S.last).1 0 (P1 ++ flatQ B) = rowsT ls ++ flatQ (A ++ B)
  cvs : ∀ c ∈ (step2 W (S.done.foldl (step2 W) ([], 0)) S.last).1, c < S.place
  srt : (step2 W (S.done.foldl (step2 W) ([], 0)) S.last).1.Pairwise (· < ·)
  cvb : ∀ c ∈ (step2 W (S.done.foldl (step2 W) ([], 0)) S.last).1, ∃ i : Nat, c = (i : Int) ∧ ∃ x, (P1 ++ flatQ B)[i]? = some x ∧ (x = 32 ∨ x = 9)
theorem FI.now (h : FI W sp p S ls A B P1) : Now W S ls A B P1 := by
  run_tac sq0
  obtain ⟨gd, lst, nb, szB, beg, pl, cvs, srt, cvb, hd, st⟩ := h
  obtain ⟨done, ⟨b, sz⟩, place⟩ := S
  dsimp only at szB beg pl cvs srt cvb st
  have hB : 0 < (flatQ B).length := flat_pos gd.right (List.mem_of_getLast? lst)
  have up : ∀ c ∈ (done.foldl (step2 W) ([], 0)).1, ∃ i : Nat, c = (i : Int) ∧ ∃ x, (P1 ++ flatQ B)[i]? = some x ∧ (x = 32 ∨ x = 9) := fun c hc => by
    obtain ⟨i, e, x, hx, hb⟩ := cvb c hc
    exact ⟨i, e, x, by rw [List.getElem?_append_left (List.getElem?_eq_some_iff.mp hx).1]; exact hx, hb⟩
  rcases hcr : done.foldl (step2 W) ([], 0) with ⟨cv, row⟩
  rw [hcr] at cvs srt cvb st up
  dsimp only at cvs srt cvb st up
  rcases st with ⟨h1, rfl, rfl, rfl, rfl⟩ | ⟨h1, h2, rfl, h3, h4⟩ | ⟨h1, h2, _, h3, h4, h5⟩
  · have e : step2 W ([], row) (b, sz) = ([], row + sz) := step2_no (fun h => by (run_tac om))
    refine ⟨?_, ?_, ?_, ?_, ?_, ?_⟩ <;> (try dsimp only) <;> rw [hcr, e] <;> (try dsimp only)
    · rw [List.nil_append]; (run_tac om)
    · (run_tac om)
    · rw [insL_none (cv := []) (fun c hc => absurd hc (by simp))]; rfl
    · exact fun c hc => nomatch hc
    · exact .nil
    · exact fun c hc => nomatch hc
  · have e : step2 W (cv, row) (b, sz) = (cv ++ [b], 0 + sz) := step2_yes h1 h2
    obtain ⟨x, X, hx, hbl⟩ := hd.resolve_left h4
    refine ⟨?_, ?_, ?_, ?_, ?_, ?_⟩ <;> (try dsimp only) <;> rw [hcr, e] <;> (try dsimp only)
    · rw [List.nil_append]; (run_tac om)
    · (run_tac om)
    · rw [List.nil_append, hx, insL_cut beg cvs, ← h3]; simp
    · intro c hc
      rcases List.mem_append.mp hc with hc | hc
      · have := cvs c hc; (run_tac om)
      · have : c = b := by simpa using hc
        (run_tac om)
    · rw [List.pairwise_append]
      exact ⟨srt, List.pairwise_singleton _ _, fun a ha c hc => by rw [List.mem_singleton.mp hc]; exact cvs a ha⟩
    · intro c hc
      rcases List.mem_append.mp hc with hc | hc
      · exact up c hc
      · have : c = b := by simpa using hc
        refine ⟨P1.length, by (run_tac om), x, ?_, hbl⟩
        rw [List.getElem?_append_right (Nat.le_refl _), Nat.sub_self, hx]
        rfl
  · have e : step2 W (cv, row) (b, sz) = (cv, row + sz) := step2_no (fun h => by (run_tac om))
    refine ⟨?_, ?_, ?_, ?_, ?_, ?_⟩ <;> (try dsimp only) <;> rw [hcr, e] <;> (try dsimp only)
    · rw [flatQ_app, List.length_append]; push_cast; (run_tac om)
    · (run_tac om)
    · rw [insL_pre (fun x hx => by have := cvs x hx; (run_tac om)), h4, flatQ_app, List.append_assoc]
    · intro c hc; have := cvs c hc; (run_tac om)
    · exact srt
    · exact up
  run_tac sq
theorem appB_fit {ps : List (Str × Str)} {q : Str × Str} (h : ((sizeOf2 (ps ++ [q]) : Nat) : Int) ≤ W) : appB W sp ls ps q = (ls, ps ++ [q]) := appB_same (by (run_tac om))
theorem FI.step (h : FI W sp p S ls A B P1) (hsp : sp = 32 ∨ sp = 120 ∨ sp = 92) {q : Pc} (hq0 : q.1 ≠ []) (hqb : ∀ c ∈ q.1, isBl c = true) (hq2 : q.2 ≠ []) :
    ∃ A' B' P2, (appB W sp ls ((A ++ B).map s2) (s2 q)).2 = (A' ++ B').map s2 ∧ FI W sp q (stepC sp p q S) (appB W sp ls ((A ++ B).map s2) (s2 q)).1 A' B' P2 ∧ P2 ++ flatQ B' = P1 ++ flatQ B ++ (q.1 ++ q.2) := by
  run_tac sq0
  have hnow := h.now
  obtain ⟨gd, lst, nb, szB, beg, pl, cvs, srt, cvb, hd, st⟩ := h
  obtain ⟨B0, hB0⟩ := List.getLast?_eq_some_iff.mp lst
  have gdq : Good [q] := ⟨fun x hx => by rw [List.mem_singleton.mp hx]; exact hqb, fun x hx => by rw [List.mem_singleton.mp hx]; exact hq2⟩
  have gd' : Good (A ++ B ++ [q]) := ⟨fun x hx => (List.mem_append.mp hx).elim (gd.bl x) (gdq.bl x), fun x hx => (List.mem_append.mp hx).elim (gd.ne x) (gdq.ne x)⟩
  have hz : 0 < q.1.length := List.length_pos_iff.mpr hq0
  have hqx : ∃ x X, q.1 ++ q.2 = x :: X ∧ (x = 32 ∨ x = 9) := by
    obtain ⟨q1, q2⟩ := q
    cases q1 with
    | nil => exact absurd rfl hq0
    | cons x X =>
      have := hqb x (.head _)
      unfold isBl at this
      exact ⟨x, X ++ q2, rfl, by simpa using this⟩
  have hzI : sizeI q = ((q.1 ++ q.2).length : Int) := by unfold sizeI; rw [List.length_append]; push_cast; rfl
  have hps : (A ++ B).map s2 ++ [s2 q] = (A ++ B ++ [q]).map s2 := by rw [List.map_append (l₁ := A ++ B)]; rfl
  have hsz : ((sizeOf2 ((A ++ B).map s2 ++ [s2 q]) : Nat) : Int) = ((flatQ (A ++ B)).length : Int) + sizeI q := by
    rw [hps, size_pc, flatQ_app (A ++ B), flatQ_one, List.length_append, hzI]
    push_cast
    rfl
  have hfl : (((A ++ B).map s2).length) = A.length + B.length := by simp
  by_cases hb : breakB sp p q = true
  · -- a new block
    have hS : stepC sp p q S = ⟨S.done ++ [S.last], (S.place, sizeI q), S.place + sizeI q⟩ := by unfold stepC; rw [if_pos hb]
    have hf : (S.done ++ [S.last]).foldl (step2 W) ([], 0) = step2 W (S.done.foldl (step2 W) ([], 0)) S.last := by rw [List.foldl_append]; rfl
    obtain ⟨n1, n2, n3, n4, n5, n6⟩ := hnow
    have hP : ((P1 ++ flatQ B).length : Int) = S.place := by rw [List.length_append]; push_cast; (run_tac om)
    rw [hS]
    by_cases hW : W < (step2 W (S.done.foldl (step2 W) ([], 0)) S.last).2 + sizeI q
    · have hl : lastBp sp ((A ++ B).map s2 ++ [s2 q]) ((A ++ B).map s2).length = some (A ++ B).length := by
        have e : A ++ B ++ [q] = (A ++ B0) ++ p :: q :: [] := by rw [hB0]; simp
        have e2 : (A ++ B).length = (A ++ B0).length + 1 := by rw [hB0]; simp; (run_tac om)
        rw [hps, List.length_map, e, e2, lastBp_at hsp hqb, if_pos hb]
      rw [appB_some (by (run_tac om)) hl, hps, ← List.map_take, ← List.map_drop, List.take_left, List.drop_left]
      refine ⟨[], [q], P1 ++ flatQ B, rfl, ⟨gdq, rfl, trivial, by rw [flatQ_one]; exact hzI.symm, hP, rfl, ?_, ?_, ?_, .inr ?_, .inr (.inl ⟨?_, ?_, rfl, ?_, ?_⟩)⟩, by rw [flatQ_one]⟩ <;> (try dsimp only) <;> (try rw [hf])
      · exact n4
      · exact n5
      · exact n6
      · rw [flatQ_one]; exact hqx
      · exact n2
      · exact hW
      · rw [n3, rowsT_snoc, allS_pc]
      · intro he
        have := congrArg List.length he
        have h9 := flat_pos gd.right (List.mem_of_getLast? lst)
        simp only [List.length_append, List.length_nil] at this
        (run_tac om)
    · rw [appB_fit (by (run_tac om)), hps]
      refine ⟨A ++ B, [q], P1 ++ flatQ B, rfl, ⟨gd', rfl, trivial, by rw [flatQ_one]; exact hzI.symm, hP, rfl, ?_, ?_, ?_, .inr ?_, .inr (.inr ⟨?_, ?_, ⟨A ++ B0, p, q, [], ?_, rfl, hb⟩, ?_, ?_, ?_⟩)⟩, by rw [flatQ_one]⟩ <;> (try dsimp only) <;> (try rw [hf])
      · exact n4
      · exact n5
      · exact n6
      · rw [flatQ_one]; exact hqx
      · exact n2
      · (run_tac om)
      · rw [hB0, List.append_assoc]
      · exact n1.symm
      · exact n3
      · intro he
        have := congrArg List.length he
        have h9 := flat_pos gd.right (List.mem_of_getLast? lst)
        simp only [List.length_append, List.length_nil] at this
        (run_tac om)
  · -- the block goes on
    have hb : breakB sp p q = false := by simpa using hb
    have hS : stepC sp p q S = ⟨S.done, (S.last.1, S.last.2 + sizeI q), S.place + sizeI q⟩ := by unfold stepC; rw [if_neg (by rw [hb]; exact Bool.noConfusion)]
    have hnb : nbk sp (B ++ [q]) := nbk_snoc nb lst hb
    have hlq : (B ++ [q]).getLast? = some q := by simp
    have hszB : ((flatQ (B ++ [q])).length : Int) = S.last.2 + sizeI q := by rw [flatQ_app, flatQ_one, List.length_append, hzI]; push_cast; push_cast at szB; (run_tac om)
    have hdq : P1 = [] ∨ ∃ x X, flatQ (B ++ [q]) = x :: X ∧ (x = 32 ∨ x = 9) := by
      rcases hd with h | ⟨x, X, h, h2⟩
      · exact .inl h
      · exact .inr ⟨x, X ++ (q.1 ++ q.2), by rw [flatQ_app, flatQ_one, h]; rfl, h2⟩
    have hfin : P1 ++ flatQ (B ++ [q]) = P1 ++ flatQ B ++ (q.1 ++ q.2) := by rw [flatQ_app, flatQ_one, List.append_assoc]
    have hpl : S.place + sizeI q = S.last.1 + (S.last.2 + sizeI q) := by (run_tac om)
    obtain ⟨b, B1, hB1⟩ : ∃ b B1, B = b :: B1 := by
      cases B with
      | nil => cases lst
      | cons b B1 => exact ⟨b, B1, rfl⟩
    have hAB : A ++ B ++ [q] = A ++ b :: (B1 ++ [q]) := by rw [hB1]; simp
    have hlast : lastBp sp ((A ++ B).map s2 ++ [s2 q]) ((A ++ B).map s2).length = lastBp sp ((A ++ b :: (B1 ++ [q])).map s2) A.length := by
      rw [hps, List.length_map, hAB, show (A ++ B).length = A.length + (B1 ++ [q]).length by rw [hB1]; simp]
      exact lastBp_nb hsp _ _ _ (by have := Good.right (a := A) (b := b :: (B1 ++ [q])) (by rw [← hAB]; exact gd'); exact this) (by rw [hB1] at hnb; exact hnb)
    have first : A = [] → (appB W sp ls ((A ++ B).map s2) (s2 q)) = (ls, (A ++ (B ++ [q])).map s2) := by
      rintro rfl
      have hl0 : lastBp sp (([] ++ B).map s2 ++ [s2 q]) (([] ++ B).map s2).length = none := by rw [hlast]; rfl
      have hps' : ([] ++ B).map s2 ++ [s2 q] = ([] ++ (B ++ [q])).map s2 := hps
      by_cases hW : W < ((sizeOf2 (([] ++ B).map s2 ++ [s2 q]) : Nat) : Int)
      · rw [appB_none hW hl0, hps']
      · rw [appB_same hW, hps']
    rw [hS]
    rcases st with ⟨h1, h2, h3, h4, h5⟩ | ⟨h1, h2, h3, h4, h5⟩ | ⟨h1, h2, ⟨A', a, b', B', h3, h3', h3''⟩, h4, h5, h6⟩
    · rw [first h3]
      refine ⟨A, B ++ [q], P1, rfl, ⟨by rw [← List.append_assoc]; exact gd', hlq, hnb, hszB, beg, hpl, cvs, srt, cvb, hdq, .inl ⟨h1, h2, h3, h4, h5⟩⟩, hfin⟩
    · rw [first h3]
      refine ⟨A, B ++ [q], P1, rfl, ⟨by rw [← List.append_assoc]; exact gd', hlq, hnb, hszB, beg, hpl, cvs, srt, cvb, hdq, .inr (.inl ⟨h1, ?_, h3, h4, h5⟩)⟩, hfin⟩
      dsimp only
      have : 0 ≤ sizeI q := by rw [hzI]; (run_tac om)
      (run_tac om)
    · have hrow : (step2 W (S.done.foldl (step2 W) ([], 0)) S.last).2 = (S.done.foldl (step2 W) ([], 0)).2 + S.last.2 := by
        have : step2 W ((S.done.foldl (step2 W) ([], 0)).1, (S.done.foldl (step2 W) ([], 0)).2) (S.last.1, S.last.2) = ((S.done.foldl (step2 W) ([], 0)).1, (S.done.foldl (step2 W) ([], 0)).2 + S.last.2) := step2_no (fun h => by (run_tac om))
        exact congrArg Prod.snd this
      have n1 := hnow.row
      rw [hrow] at n1
      by_cases hW : W < (S.done.foldl (step2 W) ([], 0)).2 + (S.last.2 + sizeI q)
      · have hl : lastBp sp ((A ++ B).map s2 ++ [s2 q]) ((A ++ B).map s2).length = some A.length := by
          obtain ⟨rfl, rfl⟩ : b = b' ∧ B1 = B' := by rw [hB1] at h3'; injection h3' with e1 e2; exact ⟨e1, e2⟩
          have hbb : ∀ c ∈ b.1, isBl c = true := gd.bl b (List.mem_append_right _ (by rw [hB1]; exact .head _))
          rw [hlast, h3, show (A' ++ [a]).length = A'.length + 1 by simp, show A' ++ [a] ++ b :: (B1 ++ [q]) = A' ++ a :: b :: (B1 ++ [q]) by simp, lastBp_at hsp hbb, if_pos h3'']
        rw [appB_some (by (run_tac om)) hl, hps, List.append_assoc, ← List.map_take, ← List.map_drop, List.take_left, List.drop_left]
        refine ⟨[], B ++ [q], P1, rfl, ⟨?_, hlq, hnb, hszB, beg, hpl, cvs, srt, cvb, hdq, .inr (.inl ⟨h1, hW, rfl, ?_, h6⟩)⟩, hfin⟩
        · have := Good.right (a := A) (b := B ++ [q]) (by rw [← List.append_assoc]; exact gd'); exact this
        · dsimp only
          rw [h5, rowsT_snoc, allS_pc]
      · rw [appB_fit (by (run_tac om)), hps, List.append_assoc]
        refine ⟨A, B ++ [q], P1, rfl, ⟨by rw [← List.append_assoc]; exact gd', hlq, hnb, hszB, beg, hpl, cvs, srt, cvb, hdq, .inr (.inr ⟨h1, by dsimp only; (run_tac om), ⟨A', a, b', B' ++ [q], h3, by rw [h3']; rfl, h3''⟩, h4, h5, h6⟩)⟩, hfin⟩
  run_tac sq
end
end Mine
end -- Q5
section -- Q6
set_option backward.match.sparseCases false
set_option genSizeOf false
set_option genInjectivity false
open PySem PySem.W PySem.W.X PySem.Builtin PySem.Builtin.Str
namespace Mine
structure PI (S : PS) (cs : List Nat) : Prop where
  flat : flatQ (S.1 ++ [S.2]) = cs
  bl : ∀ q ∈ S.1 ++ [S.2], (∀ c ∈ q.1, isBl c = true) ∧ ∀ c ∈ q.2, isBl c = false
  ne : ∀ q ∈ S.1, q.2 ≠ []
  hd : ∀ q ∈ (S.1 ++ [S.2]).drop 1, q.1 ≠ []
  cnt : S.1.length ≤ cs.length
theorem drop1_snoc {α : Type} (l : List α) (a : α) : (l ++ [a]).drop 1 = if l = [] then [] else l.drop 1 ++ [a] := by
  cases l with
  | nil => rfl
  | cons x l => rw [if_neg (List.cons_ne_nil _ _)]; rfl
theorem PI.step {S : PS} {cs : List Nat} (h : PI S cs) (c : Nat) : PI (stepP S c) (cs ++ [c]) := by
  run_tac sq0
  (
  obtain ⟨h1, h2, h3, h4, h5⟩ := h
  obtain ⟨L, q1, q2⟩ := S
  dsimp only at h1 h2 h3 h4 h5
  rw [flatQ_app, flatQ_one] at h1
  unfold stepP
  cases hc : isBl c with
  | true =>
    rw [if_pos rfl]
    dsimp only
    by_cases hq : q2 = []
    · subst hq
      rw [if_pos rfl]
      refine ⟨?_, ?_, h3, ?_, by rw [List.length_append]; dsimp only; (run_tac om)⟩
      · dsimp only
        rw [flatQ_app, flatQ_one, ← h1]; simp
      · intro q hq
        rcases List.mem_append.mp hq with hq | hq
        · exact h2 q (List.mem_append_left _ hq)
        · obtain rfl := List.mem_singleton.mp hq
          have := h2 (q1, []) (List.mem_append_right _ (List.mem_singleton.mpr rfl))
          exact ⟨fun x hx => (List.mem_append.mp hx).elim (this.1 x) fun hx => by rw [List.mem_singleton.mp hx]; exact hc, fun x hx => nomatch hx⟩
      · dsimp only
        intro q hq
        rw [drop1_snoc] at hq h4
        split at hq
        · cases hq
        · rename_i hl
          rw [if_neg hl] at h4
          rcases List.mem_append.mp hq with hq | hq
          · exact h4 q (List.mem_append_left _ hq)
          · obtain rfl := List.mem_singleton.mp hq
            simp
    · rw [if_neg hq]
      refine ⟨?_, ?_, ?_, ?_, ?_⟩
      · dsimp only
        rw [flatQ_app, flatQ_app, flatQ_one, flatQ_one, ← h1]; simp
      · intro q hq
        rcases List.mem_append.mp hq with hq | hq
        · exact h2 q hq
        · obtain rfl := List.mem_singleton.mp hq
          exact ⟨fun x hx => by rw [List.mem_singleton.mp hx]; exact hc, fun x hx => nomatch hx⟩
      · intro q hx
        rcases List.mem_append.mp hx with hx | hx
        · exact h3 q hx
        · obtain rfl := List.mem_singleton.mp hx
          exact hq
      · dsimp only
        intro q hx
        rw [drop1_snoc, if_neg (by simp)] at hx
        rcases List.mem_append.mp hx with hx | hx
        · exact h4 q hx
        · obtain rfl := List.mem_singleton.mp hx
          exact List.cons_ne_nil _ _
      · dsimp only
        rw [List.length_append, List.length_append]
        simp only [List.length_cons, List.length_nil]
        (run_tac om)
  | false =>
    rw [if_neg Bool.noConfusion]
    refine ⟨?_, ?_, h3, ?_, by rw [List.length_append]; dsimp only; (run_tac om)⟩
    · dsimp only
      rw [flatQ_app, flatQ_one, ← h1]; simp
    · intro q hq
      rcases List.mem_append.mp hq with hq | hq
      · exact h2 q (List.mem_append_left _ hq)
      · obtain rfl := List.mem_singleton.mp hq
        have := h2 (q1, q2) (List.mem_append_right _ (List.mem_singleton.mpr rfl))
        exact ⟨this.1, fun x hx => (List.mem_append.mp hx).elim (this.2 x) fun hx => by rw [List.mem_singleton.mp hx]; exact hc⟩
    · dsimp only
      intro q hq
      rw [drop1_snoc] at hq h4
      split at hq
      · cases hq
      · rename_i hl
        rw [if_neg hl] at h4
        rcases List.mem_append.mp hq with hq | hq
        · exact h4 q (List.mem_append_left _ hq)
        · obtain rfl := List.mem_singleton.mp hq
          exact h4 (q1, q2) (List.mem_append_right _ (List.mem_singleton.mpr rfl))
  )
  run_tac sq
theorem PI.run : ∀ (l : List Nat) {S : PS} {cs : List Nat}, PI S cs → PI (l.foldl stepP S) (cs ++ l)
  | [], S, cs, h => by rw [List.append_nil]; exact h
  | c :: l, S, cs, h => by
    have := PI.run l (h.step c)
    rw [List.append_assoc] at this
    exact this
theorem pi_0 : PI ([], ([], [])) [] := ⟨rfl, fun q hq => by obtain rfl := List.mem_singleton.mp hq; exact ⟨fun _ h => (nomatch h), fun _ h => (nomatch h)⟩, fun _ h => (nomatch h), fun _ h => (nomatch h), Nat.le_refl _⟩
theorem piece_le {q : Pc} {l : List Pc} (h : q ∈ l) : q.1.length + q.2.length ≤ (flatQ l).length := by
  obtain ⟨a, b, rfl⟩ := List.append_of_mem h
  have e : flatQ (a ++ q :: b) = flatQ a ++ (q.1 ++ q.2 ++ flatQ b) := by simp [flatQ]
  rw [e]
  simp only [List.length_append]
  (run_tac om)
structure PcsOk (pcs : List Pc) (ln : List Nat) : Prop where
  flat : flatQ pcs = ln
  gd : Good pcs
  hd : ∀ q ∈ pcs.drop 1, q.1 ≠ []
  nb : ∀ q ∈ pcs, ∀ c ∈ q.2, isBl c = false
  len : pcs.length ≤ ln.length + 1
  nn : pcs ≠ []
theorem pieces_ok (l : List Nat) : PcsOk (piecesOf (l ++ [120])) (l ++ [120]) := by
  run_tac sq0
  have h := PI.run l pi_0
  have h2 := PI.run (l ++ [120]) pi_0
  rw [List.nil_append] at h h2
  have e : (l ++ [120]).foldl stepP ([], ([], [])) = stepP (l.foldl stepP ([], ([], []))) 120 := by rw [List.foldl_append]; rfl
  obtain ⟨h1, h3, h4, h5, h6⟩ := h2
  refine ⟨h1, ⟨fun q hq => (h3 q hq).1, fun q hq => ?_⟩, h5, fun q hq => (h3 q hq).2, ?_, ?_⟩
  · rcases List.mem_append.mp hq with hq | hq
    · exact h4 q hq
    · rw [List.mem_singleton.mp hq, e]
      unfold stepP
      rw [if_neg (by decide)]
      simp
  · unfold piecesOf
    rw [List.length_append]
    simp only [List.length_cons, List.length_nil]
    (run_tac om)
  · unfold piecesOf
    simp
  run_tac sq
theorem line_x (N : NS) : ∃ l, lineL N = l ++ [120] := by
  refine ⟨(writ (wl N.n0) (mnOf N.n0) ++ [32]) ++ ((writ (wl N.n1) (mnOf N.n1) ++ [9]) ++ ((writ (wl N.n2) (mnOf N.n2) ++ [32]) ++ (writ (wl N.n3) (mnOf N.n3) ++ [9]))), ?_⟩
  have e : writ [120] 0 = [120] := rfl
  unfold lineL lineP
  rw [e]
  simp
theorem pcs_ok (N : NS) : PcsOk (piecesOf (lineL N)) (lineL N) := by
  obtain ⟨l, e⟩ := line_x N
  rw [e]
  exact pieces_ok l
theorem okPcs_ok (N : NS) : okPcs (piecesOf (lineL N)) := by
  have h := pcs_ok N
  have hl := line_le N
  refine ⟨h.hd, h.gd.ne, by have := h.len; (run_tac om), fun q hq => ?_⟩
  have := piece_le hq
  rw [h.flat] at this
  (run_tac om)
section
variable {W : Int} {sp : Nat}
theorem fi_run (hsp : sp = 32 ∨ sp = 120 ∨ sp = 92) : ∀ (l : List Pc) (p : Pc) (S : BS) (ls : List Str) (A B : List Pc) (P1 : List Nat), FI W sp p S ls A B P1 → Good l → (∀ q ∈ l, q.1 ≠ []) →
    ∃ A' B' P2 p', (appR W sp l (ls, (A ++ B).map s2)).2 = (A' ++ B').map s2 ∧ FI W sp p' (runC sp p l S) (appR W sp l (ls, (A ++ B).map s2)).1 A' B' P2 ∧ P2 ++ flatQ B' = P1 ++ flatQ B ++ flatQ l ∧ p' ∈ p :: l
  | [], p, S, ls, A, B, P1, h, _, _ => ⟨A, B, P1, p, rfl, h, by simp [flatQ], .head _⟩
  | q :: l, p, S, ls, A, B, P1, h, hg, hq => by
    obtain ⟨A', B', P2, e1, h1, e2⟩ := h.step hsp (hq q (.head _)) (hg.bl q (.head _)) (hg.ne q (.head _))
    have er : appR W sp (q :: l) (ls, (A ++ B).map s2) = appR W sp l ((appB W sp ls ((A ++ B).map s2) (s2 q)).1, (A' ++ B').map s2) := by
      show appR W sp l (appB W sp ls ((A ++ B).map s2) (s2 q)) = _
      rw [← e1]
    obtain ⟨A3, B3, P3, p3, g1, g2, g3, g4⟩ := fi_run hsp l q (stepC sp p q S) _ A' B' P2 h1 ⟨fun x hx => hg.bl x (.tail _ hx), fun x hx => hg.ne x (.tail _ hx)⟩ fun x hx => hq x (.tail _ hx)
    rw [er]
    refine ⟨A3, B3, P3, p3, g1, g2, ?_, .tail _ g4⟩
    rw [g3, e2]
    have : flatQ (q :: l) = q.1 ++ q.2 ++ flatQ l := by simp [flatQ]
    rw [this, List.append_assoc]
theorem appR_small : ∀ (l : List Pc) (u : List Str × List (Str × Str)), (appR W sp l u).1.length ≤ u.1.length + l.length ∧ (appR W sp l u).2.length ≤ u.2.length + l.length ∧ ∀ x ∈ (appR W sp l u).2, x ∈ u.2 ∨ x ∈ l.map s2
  | [], u => ⟨by simp [appR], by simp [appR], fun x hx => .inl hx⟩
  | q :: l, u => by
    have h := @appB_small W sp u.1 u.2 (s2 q)
    have ih := appR_small l (appB W sp u.1 u.2 (s2 q))
    have e : appR W sp (q :: l) u = appR W sp l (appB W sp u.1 u.2 (s2 q)) := rfl
    rw [e]
    simp only [List.length_cons]
    refine ⟨by (run_tac om), by (run_tac om), fun x hx => ?_⟩
    rcases ih.2.2 x hx with h' | h'
    · rcases h.2.2 x h' with h' | h'
      · exact .inl h'
      · exact .inr (by rw [h']; exact .head _)
    · exact .inr (.tail _ h')
end
theorem glued_nl (ls : List Str) (x : Str) : glued ⟨#[10]⟩ (ls ++ [x]) = ⟨⟨rowsT ls ++ x.cps.toList⟩⟩ := by
  run_tac sq0
  (
  have key : ∀ (m : List Str) (a : Array Nat), (m.foldl (fun acc p => acc ++ (⟨#[10]⟩ : Str).cps ++ p.cps) a).toList = a.toList ++ (m.map fun p => 10 :: p.cps.toList).flatten := by
    intro m
    induction m with
    | nil => intro a; simp
    | cons p m ih => intro a; rw [List.foldl_cons, ih]; simp
  have key2 : ∀ (m : List Str) (y : Str), y.cps.toList ++ ((m ++ [x]).map fun p => 10 :: p.cps.toList).flatten = rowsT (y :: m) ++ x.cps.toList := by
    intro m
    induction m with
    | nil => intro y; simp [rowsT]
    | cons p m ih =>
      intro y
      have := ih p
      simp only [List.cons_append, List.map_cons, List.flatten_cons, rowsT] at this ⊢
      rw [this]
      simp
  cases ls with
  | nil =>
    unfold glued
    simp [rowsT]
  | cons y m =>
    have e : glued ⟨#[10]⟩ (y :: m ++ [x]) = ⟨(m ++ [x]).foldl (fun acc p => acc ++ (⟨#[10]⟩ : Str).cps ++ p.cps) y.cps⟩ := by
      unfold glued
      simp
    rw [e]
    have := (key (m ++ [x]) y.cps).trans (key2 m y)
    rw [← this]
  )
  run_tac sq
theorem rowsT_len (ls : List Str) : (rowsT ls).length = (ls.map (·.length)).sum + ls.length := by
  run_tac sq0
  (
  induction ls with
  | nil => rfl
  | cons x ls ih =>
    have e : rowsT (x :: ls) = x.cps.toList ++ [10] ++ rowsT ls := by simp [rowsT]
    rw [e, List.length_append, List.length_append, ih, List.map_cons, List.sum_cons, List.length_cons]
    have : x.cps.toList.length = x.length := rfl
    simp only [List.length_cons, List.length_nil]
    (run_tac om)
  )
  run_tac sq
theorem insL_len (cv : List Int) : ∀ (l : List Nat) (k : Nat), (insL cv k l).length ≤ 2 * l.length
  | [], k => Nat.le_refl _
  | c :: l, k => by
    have := insL_len cv l (k + 1)
    rw [insL_cons, List.length_append, List.length_cons]
    split <;> simp only [List.length_cons, List.length_nil] <;> (run_tac om)
theorem cuts_len (W : Int) : ∀ (l : List (Int × Int)) (S : List Int × Int), (l.foldl (step2 W) S).1.length ≤ S.1.length + l.length
  | [], S => Nat.le_refl _
  | x :: l, S => by
    have := cuts_len W l (step2 W S x)
    have h : (step2 W S x).1.length ≤ S.1.length + 1 := by
      unfold step2
      split <;> simp
    rw [List.foldl_cons, List.length_cons]
    (run_tac om)
theorem wordD_len (cv : List Int) (w : List Nat) (m : Int) (E : List (List Nat × Int) × Int) : (wordD cv w m E).1.length ≤ E.1.length + w.length + 1 := by
  run_tac sq0
  have h := foldD_len cv m w ⟨E.1, [], if 0 < m then E.2 + 1 else E.2⟩
  unfold wordD
  dsimp only
  generalize w.foldl (stepD cv m) ⟨E.1, [], if 0 < m then E.2 + 1 else E.2⟩ = S at h ⊢
  dsimp only at h
  split
  · (run_tac om)
  · rw [List.length_append]; simp only [List.length_cons, List.length_nil]; (run_tac om)
  run_tac sq
theorem dueRun_len (cv : List Int) : ∀ (l : List (List Nat × Int)) (E : List (List Nat × Int) × Int), (∀ q ∈ l, q.1.length ≤ 4) → (dueRun cv l E).1.length ≤ E.1.length + 5 * l.length
  | [], E, _ => Nat.le_refl _
  | (w, m) :: l, E, h => by
    have h1 := wordD_len cv w m E
    have h2 := dueRun_len cv l (wordD cv w m E) fun q hq => h q (.tail _ hq)
    have h3 : w.length ≤ 4 := h _ (.head _)
    show (dueRun cv l (wordD cv w m E)).1.length ≤ _
    rw [List.length_cons]
    (run_tac om)
theorem sp_no {c : Nat} (h : c = 120 ∨ c = 34 ∨ c = 92) : PySem.Unicode.isSpace c = false := by
  rcases h with rfl | rfl | rfl <;> decide +kernel
theorem lawT {W : Int} {sp : Nat} (hsp : sp = 32 ∨ sp = 120 ∨ sp = 92) (N : NS) : LawT W sp (lineL N) (wlN N) := by
  run_tac sq0
  have hP := pcs_ok N
  have hl := line_le N
  have hm := line_mem N
  have hdue : ∀ cv, CutsAt cv (lineL N) → _ := fun cv hC => due_rd (cv := cv) N hC
  generalize lineL N = ln at hP hl hm hdue ⊢
  obtain ⟨hf, hg, hh, hb, hn, hnn⟩ := hP
  have hps := @appR_small W sp (piecesOf ln) ([], [])
  have hcl : (cutsOf W sp (piecesOf ln)).length ≤ (piecesOf ln).length := by
    unfold cutsOf
    have h1 := cuts_len W (blocksOf sp (piecesOf ln)) ([], 0)
    have h2 : (blocksOf sp (piecesOf ln)).length ≤ (piecesOf ln).length := by
      cases piecesOf ln with
      | nil => exact Nat.le_refl _
      | cons q l =>
        have := runC_len sp l q ⟨[], (0, sizeI q), 0 + sizeI q⟩
        unfold blocksOf
        simp only [List.length_append, List.length_cons, List.length_nil] at this ⊢
        (run_tac om)
    simp only [List.length_nil] at h1
    (run_tac om)
  have hsmall : ∀ q ∈ piecesOf ln, q.1.length + q.2.length ≤ 55 := fun q hq => by
    have := piece_le hq
    rw [hf] at this
    (run_tac om)
  have hlet : ∀ q ∈ piecesOf ln, ∀ c ∈ q.2, c = 120 ∨ c = 34 ∨ c = 92 := fun q hq c hc => by
    have h1 : c ∈ ln := by
      rw [← hf]
      exact List.mem_flatten.mpr ⟨q.1 ++ q.2, List.mem_map.mpr ⟨q, hq, rfl⟩, List.mem_append_right _ hc⟩
    have h2 := hb q hq c hc
    rcases hm c h1 with rfl | rfl | rfl | rfl | rfl
    · exact .inl rfl
    · cases h2
    · exact .inr (.inl rfl)
    · exact .inr (.inr rfl)
    · cases h2
  -- the run
  obtain ⟨A, B, P2, p, g1, g2, g3, S, gF, gC, gP⟩ : ∃ A B P2 p, (appR W sp (piecesOf ln) ([], [])).2 = (A ++ B).map s2 ∧ p ∈ piecesOf ln ∧ P2 ++ flatQ B = ln ∧ ∃ S : BS, FI W sp p S (appR W sp (piecesOf ln) ([], [])).1 A B P2 ∧ cutsOf W sp (piecesOf ln) = (step2 W (S.done.foldl (step2 W) ([], 0)) S.last).1 ∧ S.place = (ln.length : Int) := by
    cases hpc : piecesOf ln with
    | nil => exact absurd hpc hnn
    | cons q l =>
      rw [hpc] at hf hg hh
      have h0 : appB W sp [] [] (s2 q) = ([], [q].map s2) := by
        by_cases h : W < ((sizeOf2 ([] ++ [s2 q]) : Nat) : Int)
        · exact appB_none h rfl
        · exact appB_same h
      have hz : sizeI q = ((q.1 ++ q.2).length : Int) := by unfold sizeI; rw [List.length_append]; push_cast; rfl
      have hFI : FI W sp q ⟨[], (0, sizeI q), 0 + sizeI q⟩ [] [] [q] [] := by
        refine ⟨⟨fun x hx => ?_, fun x hx => ?_⟩, rfl, trivial, by rw [flatQ_one]; exact hz.symm, rfl, rfl, fun c hc => (nomatch hc), .nil, fun c hc => (nomatch hc), .inl rfl, .inl ⟨rfl, rfl, rfl, rfl, rfl⟩⟩
        · have : x = q := by simpa using hx
          rw [this]; exact hg.bl q (.head _)
        · have : x = q := by simpa using hx
          rw [this]; exact hg.ne q (.head _)
      obtain ⟨A, B, P2, p, g1, g2, g3, g4⟩ := fi_run hsp l q _ [] [] [q] [] hFI ⟨fun x hx => hg.bl x (.tail _ hx), fun x hx => hg.ne x (.tail _ hx)⟩ hh
      have er : appR W sp (q :: l) ([], []) = appR W sp l ([], ([] ++ [q]).map s2) := by
        show appR W sp l (appB W sp [] [] (s2 q)) = _
        rw [h0]
        rfl
      rw [er]
      have hall : P2 ++ flatQ B = ln := by
        rw [g3, ← hf]
        simp [flatQ]
      refine ⟨A, B, P2, p, g1, g4, hall, _, g2, ?_, ?_⟩
      · unfold cutsOf blocksOf
        dsimp only
        rw [List.foldl_append]
        rfl
      · rw [g2.pl, ← g2.beg, ← g2.szB, ← hall, List.length_append]
        push_cast
        rfl
  have gN := gF.now
  obtain ⟨n1, n2, n3, n4, n5, n6⟩ := gN
  rw [← gC, g3] at n3
  rw [← gC] at n5
  rw [← gC, g3] at n6
  have hCut : CutsAt (cutsOf W sp (piecesOf ln)) ln := ⟨n5.imp fun h => by (run_tac om), n6⟩
  obtain ⟨d1, d2⟩ := hdue _ hCut
  obtain ⟨B0, hB0⟩ := List.getLast?_eq_some_iff.mp gF.lst
  have hAll : (allS ((appR W sp (piecesOf ln) ([], [])).2)).cps.toList = flatQ (A ++ B) := by rw [g1, allS_pc]
  have hIn := insL_len (cutsOf W sp (piecesOf ln)) ln 0
  have hmem : p ∈ A ++ B := List.mem_append_right _ (List.mem_of_getLast? gF.lst)
  refine ⟨⟨by have := hps.2.1; simp only [List.length_nil] at this; (run_tac om), fun x hx => ?_⟩, by have := hps.1; simp only [List.length_nil] at this; (run_tac om), by have := hps.2.1; simp only [List.length_nil] at this; (run_tac om), ⟨(A ++ B0).map s2, (s2 p).1, (s2 p).2, ?_, ?_⟩, ?_, ?_, ?_, ?_, by (run_tac om), ?_, d1, d2⟩
  · rcases hps.2.2 x hx with h | h
    · cases h
    · obtain ⟨q, hq, rfl⟩ := List.mem_map.mp h
      have := hsmall q hq
      simp only [s2, Str.length, List.size_toArray]
      (run_tac om)
  · rw [g1, hB0]
    simp
  · have := List.length_pos_iff.mpr (hg.ne p g2)
    simp only [s2, Str.length, List.size_toArray]
    (run_tac om)
  · unfold nonWs
    rw [all_toList, hAll]
    have : (flatQ (A ++ B)).all PySem.Unicode.isSpace = false := by
      obtain ⟨c, hc⟩ := List.exists_mem_of_ne_nil _ (hg.ne p g2)
      rw [List.all_eq_false]
      refine ⟨c, List.mem_flatten.mpr ⟨p.1 ++ p.2, List.mem_map.mpr ⟨p, hmem, rfl⟩, List.mem_append_right _ hc⟩, ?_⟩
      rw [sp_no (hlet p g2 c hc)]
      exact Bool.noConfusion
    rw [this]
    simp
  · have h1 := rowsT_len (appR W sp (piecesOf ln) ([], [])).1
    have h2 := congrArg List.length n3
    have h3 : (allS (appR W sp (piecesOf ln) ([], [])).2).length = (flatQ (A ++ B)).length := congrArg List.length hAll
    have h4 := sizeLine_eq
    rw [List.length_append] at h2
    rw [List.map_append, List.sum_append, List.length_append, List.map_cons, List.map_nil, List.sum_cons, List.sum_nil, List.length_cons, List.length_nil, h3, show (⟨#[10]⟩ : Str).length = 1 from rfl]
    (run_tac om)
  · rw [glued_nl, hAll, ← n3]
    rfl
  · show (insL (cutsOf W sp (piecesOf ln)) 0 ln).length ≤ 500
    (run_tac om)
  · have := dueRun_len (cutsOf W sp (piecesOf ln)) (wlN N) ([], 0) fun q hq => (wlN_ok N q hq).1
    have h5 : (wlN N).length = 5 := rfl
    simp only [List.length_nil] at this
    (run_tac om)
  run_tac sq
end Mine
end -- Q6
section -- AS2
set_option backward.match.sparseCases false
set_option genSizeOf false
set_option genInjectivity false
open PySem PySem.W PySem.W.X PySem.Builtin PySem.Builtin.Str PySem.SeqAt PyProof.Rows
namespace Mine
section
variable {w : World} {b1 b2 : Bool} {h₀ : Heap} {d : Drawn} {os : OsState} {hk : KT.Holds h₀ 1 0 (kt1 (W2 w b1 b2).params)} {hN : h₀.objs.size ≤ 281}
theorem inQ_all {a : LA} {pF pI pM : Nat} {tx : Str} {pb : List PySem.Value} (hl : tx.length ≤ sizeLine) : ∀ fuel, InOk (cx w b1 b2 h₀ d os hk hN) ⟨(W2 w b1 b2).params, a, pF, pI, pM, tx, pb⟩ (inQ (W2 w b1 b2).params) isQ fuel
  | 0 => fun pos ln tok ch h1 h2 => absurd h1 (by dsimp only at h2 ⊢; (run_tac om))
  | f + 1 => inQ_step hl read_t f (inQ_all hl f)
theorem inU_all {a : LA} {pF pI pM : Nat} {tx : Str} {pb : List PySem.Value} (hl : tx.length ≤ sizeLine) : ∀ fuel, InOk (cx w b1 b2 h₀ d os hk hN) ⟨(W2 w b1 b2).params, a, pF, pI, pM, tx, pb⟩ (inU (W2 w b1 b2).params) isWs fuel
  | 0 => fun pos ln tok ch h1 h2 => absurd h1 (by dsimp only at h2 ⊢; (run_tac om))
  | f + 1 => inU_step hl read_t f (inU_all hl f)
theorem out_all {a : LA} {pF pI pM : Nat} {tx : Str} {pb : List PySem.Value} (hl : tx.length ≤ sizeLine) : ∀ fuel, OutOk (cx w b1 b2 h₀ d os hk hN) ⟨(W2 w b1 b2).params, a, pF, pI, pM, tx, pb⟩ fuel
  | 0 => fun pos ln chs h0 h1 h2 => absurd h1 (by dsimp only at h2 ⊢; (run_tac om))
  | f + 1 => out_step hl read_t f (inQ_all hl) (inU_all hl) (out_all hl f)
theorem gtOk_t : GtOk (cx w b1 b2 h₀ d os hk hN) (W2 w b1 b2).params := fun a tx pos ln hl hp => gt_nil hl hp fun _ _ _ => out_all hl
theorem sumw2_all {pS pI : Nat} {vs : List PySem.Value} {ve : Nat} {ns : List Int} (hns : vs.map vv = ns.map VV.i) : ∀ k, SumWOk (cx w b1 b2 h₀ d os hk hN) pS pI vs ve ns 2 k
  | 0 => fun tot idx h => absurd h (by (run_tac om))
  | k + 1 => sumw2_step hns (sumw2_all hns k)
theorem sumw0_all {pS pI : Nat} {vs : List PySem.Value} {ve : Nat} {ns : List Int} (hns : vs.map vv = ns.map VV.i) : ∀ k, SumWOk (cx w b1 b2 h₀ d os hk hN) pS pI vs ve ns 0 k
  | 0 => fun tot idx h => absurd h (by (run_tac om))
  | k + 1 => sumw0_step hns (sumw2_all hns k) (sumw0_all hns k)
theorem gsum_all {a : GA} {ps : List (Str × Str)} (hps : ∀ q ∈ ps, q.1.length ≤ sizeLine ∧ q.2.length ≤ sizeLine) {q : Str} : ∀ k, GSumOk (cx w b1 b2 h₀ d os hk hN) (W2 w b1 b2).params a ps q k
  | 0 => fun x tot idx f s hs h => absurd h (by (run_tac om))
  | k + 1 => gsum_step hps (gsum_all hps k)
theorem gstr_all {a : GA} {ps : List (Str × Str)} (hps : ∀ q ∈ ps, q.1.length + q.2.length ≤ sizeLine) {q : Str} : ∀ k, GStrOk (cx w b1 b2 h₀ d os hk hN) (W2 w b1 b2).params a ps q k
  | 0 => fun x xs idx f s hs h => absurd h (by (run_tac om))
  | k + 1 => gstr_step hps (gstr_all hps k)
theorem small_line {ps : List (Str × Str)} (h : smallP ps) : ∀ q ∈ ps, q.1.length + q.2.length ≤ sizeLine := fun q hq => by
  have := h.2 q hq
  have := sizeLine_eq
  (run_tac om)
theorem lenOk_t : LenOk (cx w b1 b2 h₀ d os hk hN) := fun pA pAD as ps tb hs ht => len_ok (fun q hq => by have := small_line hs q hq; (run_tac om)) (by have := size_small hs; (run_tac om)) ht fun _ _ => gsum_all fun q hq => by have := small_line hs q hq; (run_tac om)
theorem cat_sum (ps : List (Str × Str)) : ((catS ps).map (·.length)).sum = sizeOf2 ps := by
  unfold catS sizeOf2
  rw [List.map_map]
  congr 1
  refine List.map_congr_left fun q _ => ?_
  show (q.1 ++ q.2).cps.size = _
  rw [Str.cps_append, Array.size_append]
  rfl
theorem allS_sz (ps : List (Str × Str)) : (allS ps).length = sizeOf2 ps := by
  show (allS ps).cps.toList.length = _
  rw [allS_list]
  unfold flatP sizeOf2
  rw [List.length_flatten, List.map_map]
  congr 1
  refine List.map_congr_left fun q _ => ?_
  show (q.1.cps.toList ++ q.2.cps.toList).length = _
  rw [List.length_append]
  rfl
theorem joOk_t {ps : List (Str × Str)} (hs : smallP ps) : JoOk (cx w b1 b2 h₀ d os hk hN) (W2 w b1 b2).params ps := fun a q k => by
  have h1 := size_small hs
  have h2 := sizeLine_eq
  refine join_ok (a := a) (coll_ok (small_line hs) hs.1 fun _ _ => gstr_all (small_line hs)) ?_ ?_
  · have e0 := foldl_len ⟨#[]⟩ (catS ps) 0
    unfold tooLong
    rw [e0, cat_sum]
    have e1 : (⟨#[]⟩ : Str).length = 0 := rfl
    simp only [decide_eq_false_iff_not, Nat.not_lt, e1]
    (run_tac om)
  · rw [allS_sz]; (run_tac om)
theorem strOk_t : StrOk (cx w b1 b2 h₀ d os hk hN) := fun pA pAD as ps tb hs ht => str_ok ht (joOk_t hs)
theorem popOk_t : PopOk (cx w b1 b2 h₀ d os hk hN) := pop_t pc_t popA_t
theorem resetOk_t : ResetOk (cx w b1 b2 h₀ d os hk hN) := fun pA pAD as al h7 => reset_t si_t h7
theorem inB_a : ∀ i, InBOk (cx w b1 b2 h₀ d os hk hN) (W2 w b1 b2).params i
  | 0 => inB_z
  | i + 1 => inB_s rnd_t lga_t i (inB_a i)
theorem acB_t : AcBOk (cx w b1 b2 h₀ d os hk hN) := fun a as ps lines tb1 tb2 ls x y k1 k2 hsp hls hps h7 hlc ht1 ht2 => ac_x hsp hls hps h7 hlc ht1 ht2 lenOk_t strOk_t pc_t inB_a gi_t si_t popOk_t
theorem nlB_all : NlBOk (cx w b1 b2 h₀ d os hk hN) := nlB_t lenOk_t strOk_t (owB_t lenOk_t strOk_t) popOk_t resetOk_t
theorem nu_all {vs : List PySem.Value} {ve : Nat} {ns : List Int} (hvs : vs.map vv = ns.map VV.i) (h63 : vs.length ≤ 63) : ∀ f, NuOk (cx w b1 b2 h₀ d os hk hN) (W2 w b1 b2).params vs ve f
  | 0 => nu_end
  | f + 1 => nu_t hvs h63 f (nu_all hvs h63 f)
theorem wr_all (m : Int) : ∀ cs, WrOk (cx w b1 b2 h₀ d os hk hN) (W2 w b1 b2).params m cs
  | [] => wr_z m
  | c :: cs => wr_s appL_t snx_t bare_t m c cs (wr_all m cs)
theorem pcl_all : ∀ cs, PcLOk (cx w b1 b2 h₀ d os hk hN) (W2 w b1 b2).params cs
  | [] => pc_z
  | c :: cs => pc_s lla_t appL_t snx_t c cs (pcl_all cs)
theorem cu_all : ∀ l, CuOk (cx w b1 b2 h₀ d os hk hN) (W2 w b1 b2).params l
  | [] => cu_z
  | q :: l => cu_s rnu_t lgl_t lla_t appL_t sfi_t sla_t q l (cu_all l)
theorem cu2_all : ∀ l, Cu2Ok (cx w b1 b2 h₀ d os hk hN) (W2 w b1 b2).params l
  | [] => cu2_z
  | x :: l => cu2_s lnext_t appL_t x l (cu2_all l)
theorem cutsOk_t : CutsOk (cx w b1 b2 h₀ d os hk hN) := cuts_t rnu_t lgl_t appL_t cu_all cu2_all
theorem cd1_all : ∀ l, CdOk (cx w b1 b2 h₀ d os hk hN) (ce1 (W2 w b1 b2).params) l
  | [] => cd1_z
  | x :: l => cd1_t appL_t lnext_t x l (cd1_all l)
theorem cd2_all : ∀ l, CdOk (cx w b1 b2 h₀ d os hk hN) (ce2 (W2 w b1 b2).params) l
  | [] => cd2_z
  | x :: l => cd2_t appL_t lnext_t x l (cd2_all l)
theorem du_all : ∀ l, DuIOk (cx w b1 b2 h₀ d os hk hN) (W2 w b1 b2).params l
  | [] => du_z
  | c :: l => du_s snx_t lgl_t bare_t lci_t appL_t lln_t (cd1_s cd1_all) c l (du_all l)
theorem do_all : ∀ l, DuOOk (cx w b1 b2 h₀ d os hk hN) (W2 w b1 b2).params l
  | [] => do_z
  | x :: l => do_s rnu_t lgl_t appL_t lln_t (cd2_s cd2_all) du_all x l (do_all l)
theorem ap_all : ∀ l, ApOk (cx w b1 b2 h₀ d os hk hN) (W2 w b1 b2).params l
  | [] => ap_z
  | q :: l => ap_s lnext_t (acB_v acB_t) q l (ap_all l)
theorem ck_all : ∀ l, CkOk (cx w b1 b2 h₀ d os hk hN) (W2 w b1 b2).params l
  | [] => ck_z
  | c :: l => ck_s rnu_t lci_t sat_t appL_t c l (ck_all l)
theorem to_all : ∀ l, ToOk (cx w b1 b2 h₀ d os hk hN) (W2 w b1 b2).params l
  | [] => to_z
  | x :: l => to_s lnext_t gtOk_t appL_t x l (to_all l)
theorem lp1_all {j sp : Nat} (hj : ([32, 120, 92] : List Nat)[j]? = some sp) {W : Int} (N : NS) (hn : LpOk (cx w b1 b2 h₀ d os hk hN) (W2 w b1 b2).params (wlN N) (lineL N) W (j + 1) true) : LpOk (cx w b1 b2 h₀ d os hk hN) (W2 w b1 b2).params (wlN N) (lineL N) W j true := by
  have hp := pcs_ok N
  have hl := line_le N
  exact lp1_s hj tupnx_t ai_t ap_all nlB_all cutsOk_t (ckS_t ck_all) (fun _ _ _ _ => lexer2_t) (fun q hq => ⟨(wlN_ok N q hq).1, (wlN_ok N q hq).2.1, (wlN_ok N q hq).2.2.1⟩) (by show (5 : Nat) ≤ 50; decide) (toS_t to_all) gtOk_t tdne_t (due_v (due_t do_all)) (lawT (by have := List.mem_of_getElem? hj; simpa using this) N) (okPcs_ok N) (by (run_tac om)) hp.nn (line_ne N) (by have := hp.len; (run_tac om)) hn
theorem lp_all (N : NS) (W : Int) : LpOk (cx w b1 b2 h₀ d os hk hN) (W2 w b1 b2).params (wlN N) (lineL N) W 0 false := by
  have hp := pcs_ok N
  have hl := line_le N
  exact lp0_s ai_t ap_all nlB_all cutsOk_t (ckS_t ck_all) (fun _ _ _ => lexer_t) (fun q hq => ⟨(wlN_ok N q hq).1, (wlN_ok N q hq).2.1, (wlN_ok N q hq).2.2.1⟩) (by show (5 : Nat) ≤ 50; decide) (toS_t to_all) gtOk_t tdne_t (due_v (due_t do_all)) (lawT (.inl rfl) N) (okPcs_ok N) (by (run_tac om)) hp.nn (line_ne N) (by have := hp.len; (run_tac om)) (lp1_all (j := 1) (sp := 120) rfl N (lp1_all (j := 2) (sp := 92) rfl N lp_z))
theorem law_all {vs : List PySem.Value} {ve : Nat} {ns : List Int} (hvs : vs.map vv = ns.map VV.i) (h63 : vs.length ≤ 63) : LawOk (cx w b1 b2 h₀ d os hk hN) vs ve :=
  law_t (numbers_t hvs h63 (nu_all hvs h63 _)) (wds_t (word_t sg_t)) mns_t (lns_t (written_t wr_all)) (pieces_v hvs (pieces_t pcl_all)) hvs h63 (fun N W _ _ => lp_all N W) fun _ _ k => sumw0_all hvs k
end
end Mine
end -- AS2
section -- J2
set_option backward.match.sparseCases false
set_option genSizeOf false
set_option genInjectivity false
open PySem PySem.W PySem.W.X PyProof.Rows
namespace Mine
noncomputable def codeD (o : Option Obj) : Bool × Option PySem.Value := match o with
  | some ⟨.type n, _, .fields vs, _⟩ => (decide (n = "code"), vs[11]?)
  | _ => (false, none)
theorem code_tab {t : KT} {h : Heap} (hk : t.Holds h 1 0) (c : Nat) {b : Nat} (e : codeD (t.get c) = (true, some (.ref b))) : isCodeTable h b := by
  unfold codeD at e
  split at e
  · rename_i n d vs sl hc
    simp only [Prod.mk.injEq, decide_eq_true_eq] at e
    obtain ⟨rfl, e2⟩ := e
    exact ⟨c, _, vs, kt_get hk hc, rfl, rfl, e2⟩
  · cases e
noncomputable def scriptO (vs : List PySem.Value) : Obj := { cls := .type "list", data := .seq vs.toArray }
noncomputable def tab0 : Obj := { cls := .none, data := .fields #[] }
theorem exact_of {x : OV} {d : Data} {o : Obj} (hx : x.kv = .exact d) (h : ovT x o = x) : ∃ k a, o = { cls := unvv x.cls k a, dict := x.dict, data := d, slots := #[] } := by
  obtain ⟨c, dd, k⟩ := x
  dsimp only at hx
  subst hx
  obtain ⟨j, J, e⟩ := unov_ofT h
  exact ⟨j.tok, j.alt, e⟩
theorem law_end {b1 b2 : Bool} {w : World} {s₁ : Shared} {vs : List PySem.Value} (hk : KT.Holds s₁.heap 1 0 (kt1 (W2 w b1 b2).params)) (hN : s₁.heap.objs.size ≤ 281) (hol : s₁.heap.get? 280 = some (scriptO vs)) {r : Result} {s' : Shared}
    (h : Post (cx w b1 b2 s₁.heap s₁.drawn s₁.os hk hN) (lawQ2 vs 0 [] []) r s') : r = .ok (.ret (.bool true)) ∧ OldK s₁.heap s'.heap ∧ s'.os = s₁.os ∧ AllBare s'.gens := by
  obtain ⟨n, t, G, h, g, H, rfl, D, E, tb1, tb2, c, N, ht1, ht2, v, cells, rfl, hv, rfl, hc⟩ := h
  obtain rfl := vv_b hv
  obtain ⟨o0, cs, rfl, x0, hc⟩ := hc
  obtain ⟨o1, cs, rfl, x1, hc⟩ := hc
  obtain ⟨o2, cs, rfl, x2, hc⟩ := hc
  obtain ⟨o3, cs, rfl, x3, hc⟩ := hc
  obtain ⟨k0, a0, rfl⟩ := exact_of rfl x0
  obtain ⟨k1, a1, rfl⟩ := exact_of rfl x1
  obtain ⟨k2, a2, rfl⟩ := exact_of rfl x2
  obtain ⟨k3, a3, rfl⟩ := exact_of rfl x3
  have g0 := D.own _ (.head _)
  have g1 := D.own _ (.tail _ (.head _))
  have g2 := D.own _ (.tail _ (.tail _ (.head _)))
  have g3 := D.own _ (.tail _ (.tail _ (.tail _ (.head _))))
  have t1 : s₁.heap.get? 140 = some tab0 := kt_get hk (a := 140) (by kernel_rfl)
  have t2 : s₁.heap.get? 147 = some tab0 := kt_get hk (a := 147) (by kernel_rfl)
  have t3 : s₁.heap.get? 269 = some tab0 := kt_get hk (a := 269) (by kernel_rfl)
  have c1 : isCodeTable s₁.heap 140 := code_tab hk 144 (by kernel_rfl)
  have c2 : isCodeTable s₁.heap 147 := code_tab hk 151 (by kernel_rfl)
  have c3 : isCodeTable s₁.heap 269 := code_tab hk 273 (by kernel_rfl)
  have key : ∀ b o, s₁.heap.get? b = some o → h.get? b = some o ∨ (b = 280 ∧ o = scriptO vs) ∨ (b = 140 ∧ o = tab0) ∨ (b = 147 ∧ o = tab0) ∨ (b = 269 ∧ o = tab0) := by
    intro b o hb
    by_cases hin : b ∈ [140, 147, 269, 280]
    · simp only [List.mem_cons, List.not_mem_nil, or_false] at hin
      rcases hin with rfl | rfl | rfl | rfl
      · rw [t1] at hb; exact .inr (.inr (.inl ⟨rfl, (Option.some.inj hb).symm⟩))
      · rw [t2] at hb; exact .inr (.inr (.inr (.inl ⟨rfl, (Option.some.inj hb).symm⟩)))
      · rw [t3] at hb; exact .inr (.inr (.inr (.inr ⟨rfl, (Option.some.inj hb).symm⟩)))
      · rw [hol] at hb; exact .inr (.inl ⟨rfl, (Option.some.inj hb).symm⟩)
    · refine .inl (D.keep b o hb fun q hq e => ?_)
      subst e
      rcases D.off q hq with z | z
      · have z : s₁.heap.get? q.1 = none := z
        rw [hb] at z; cases z
      · exact hin z
  refine ⟨rfl, ⟨fun b o hb => ?_, fun b o hb => ?_⟩, rfl, fun x hx => ?_⟩
  · rcases key b o hb with z | ⟨rfl, rfl⟩ | ⟨rfl, rfl⟩ | ⟨rfl, rfl⟩ | ⟨rfl, rfl⟩
    · exact .inl z
    · exact .inl g0
    · exact .inr (.inl ⟨c1, rfl, #[], ⟨tb1⟩, rfl, by rw [g1]; simp [tab0, unvv]⟩)
    · exact .inr (.inl ⟨c2, rfl, #[], ⟨tb2⟩, rfl, by rw [g2]; simp [tab0, unvv]⟩)
    · exact .inr (.inl ⟨c3, rfl, #[], ⟨tabL c.c1 c.c2⟩, rfl, by rw [g3]; simp [tab0, unvv]⟩)
  · rcases key b o hb with z | ⟨rfl, rfl⟩ | ⟨rfl, rfl⟩ | ⟨rfl, rfl⟩ | ⟨rfl, rfl⟩
    · exact ⟨o, z⟩
    · exact ⟨_, g0⟩
    · exact ⟨_, g1⟩
    · exact ⟨_, g2⟩
    · exact ⟨_, g3⟩
  · obtain ⟨j, hj⟩ := Array.mem_iff_getElem?.mp hx
    exact E.bare j x hj fun q hq => nomatch hq
theorem law_at {w : World} {s₁ : Shared} {vs : List PySem.Value} (hk : KT.Holds s₁.heap 1 0 (kt1 w.params)) (hsz : s₁.heap.objs.size = 281) (hT : 544 ≤ s₁.toks) (hg : s₁.gens = #[]) (hol : s₁.heap.get? 280 = some (scriptO vs))
    (hlaw : ∀ (b1 b2 : Bool) (hk' : KT.Holds s₁.heap 1 0 (kt1 (W2 w b1 b2).params)) (hN : s₁.heap.objs.size ≤ 281), LawOk (cx w b1 b2 s₁.heap s₁.drawn s₁.os hk' hN) vs 0) :
    At1 (model PySem.Challenge.pw_ph0154_02 w) (call (.ref 279) [.ref 280]) (fun v s' => v = .bool true ∧ OldK s₁.heap s'.heap ∧ s'.os = s₁.os ∧ AllBare s'.gens) (fun _ _ => False) s₁ := by
  suffices H : ∀ b1 b2, KT.Holds s₁.heap 1 0 (kt1 (W2 w b1 b2).params) → At1 (model PySem.Challenge.pw_ph0154_02 (W2 w b1 b2)) (call (.ref 279) [.ref 280]) (fun v s' => v = .bool true ∧ OldK s₁.heap s'.heap ∧ s'.os = s₁.os ∧ AllBare s'.gens) (fun _ _ => False) s₁ by
    have := H _ _ (by rw [W2_self w]; exact hk)
    rwa [W2_self w] at this
  intro b1 b2 hk' p
  have hN : s₁.heap.objs.size ≤ 281 := Nat.le_of_eq hsz
  show Sem.wp _ callerC (runValue (.call (.ref 279) ⟨[.ref 280], []⟩)) _ _ p s₁
  rw [Sem.wp_runValue]
  have sp := hlaw b1 b2 hk' hN [(callerC.code, p)] (by kernel_rfl) p [] [] [(280, scriptO vs), (140, tab0), (147, tab0), (269, tab0)] ⟨_, _, rfl, rfl, _, _, rfl, rfl, _, _, rfl, rfl, _, _, rfl, rfl, rfl⟩ trivial 0 (s₁.toks - 544) 0 s₁.heap s₁.gens
    ⟨by show s₁.heap.objs.size = 0 + 281 + 0; (run_tac om), by show s₁.heap.objs.size ≤ 0 + 281; (run_tac om), fun b o hb _ => hb, fun q hq => ?_, ?_, fun q hq => .inr ?_⟩ (RepG.mk (by rw [hg]; rfl) (fun q hq => nomatch hq) List.nodup_nil (fun j x hx _ => by rw [hg] at hx; simp at hx))
  · have e : (s₁.toks - 544) + (cx w b1 b2 s₁.heap s₁.drawn s₁.os hk' hN).T0 = s₁.toks := by show s₁.toks - 544 + 544 = s₁.toks; (run_tac om)
    rw [e] at sp
    obtain ⟨r, s', hr, hp⟩ := sp
    refine ⟨r, s', hr, ?_⟩
    obtain ⟨rfl, h1, h2, h3⟩ := law_end hk' hN hol hp
    exact ⟨rfl, h1, h2, h3⟩
  · simp only [List.mem_cons, List.not_mem_nil, or_false] at hq
    rcases hq with rfl | rfl | rfl | rfl
    · exact hol
    · exact kt_get hk' (a := 140) (by kernel_rfl)
    · exact kt_get hk' (a := 147) (by kernel_rfl)
    · exact kt_get hk' (a := 269) (by kernel_rfl)
  · show ([280, 140, 147, 269] : List Nat).Nodup; decide
  · simp only [List.mem_cons, List.not_mem_nil, or_false] at hq
    show q.1 ∈ [140, 147, 269, 280]
    rcases hq with rfl | rfl | rfl | rfl <;> simp
end Mine
end -- J2
section
open PySem PySem.W PySem.W.X PyProof.Rows
open PySem.W.X PySem.W.ZRun
def Mine2.CallOk : Prop := ∀ (w : World) (s₁ : Shared) (vs : List PySem.Value) (ns : List Int), KT.Holds s₁.heap 1 0 (Mine2.D.ktop_560 w.params) → s₁.heap.objs.size = 281 → 544 ≤ s₁.toks → s₁.gens = #[] → s₁.heap.get? 280 = some { cls := .type "list", data := .seq vs.toArray } → IntsAre vs ns → vs.length ≤ 63 →
  Mine.At1 (model PySem.Challenge.pw_ph0154_02 w) (call (.ref 279) [.ref 280]) (fun v s' => v = .bool true ∧ OldK s₁.heap s'.heap ∧ s'.os = s₁.os ∧ AllBare s'.gens) (fun _ _ => False) s₁
set_option maxHeartbeats 0 in
theorem Mine2.toHolds (H : Mine2.CallOk) : Mine2.D.1 := by
  show Mine.Walk1 _ _ _ _ _ _ _ _
  intro w s₀ s₁ mg mb G y fa o pm cd doc dV kV ho hd hcd hD hmg hg args vals as L hpre hlay hrd hwl hlo
  z_open y L KX ZH ZN ZT
  refine Ground.open G ?_
  intro T B D TE TW
  wrow_args hpre hlay hrd hwl hlo
  obtain ⟨hat, hsz⟩ := script_at L
  have htk := script_toks L ZT
  rw [ZN] at hat hsz
  subst hat
  x_fa T KX hmg
  all_lens
  all_goals (z_lists L)
  clear hd
  refine Mine.at1_mono (H w s₁ _ _ ZH hsz htk hg (by assumption) (by assumption) ?_) ?_ (fun _ _ h => h.elim)
  · omega
  · rintro v s' ⟨rfl, h1, h2, h3⟩
    refine ⟨.inl ⟨.bool true, .bool true, [], rfl, fun _ => ?_, ?_, ?_, fun _ => ⟨List.nodup_nil, fun _ h => nomatch h⟩⟩, h1, h2, h3⟩
    · rfl
    · first | exact .bool | exact .bool _ | constructor
    · wrow_post

theorem Mine.ints_vv {vs : List PySem.Value} {ns : List Int} (h : IntsAre vs ns) : vs.map Mine.vv = ns.map Mine.VV.i := by
  induction h with
  | nil => rfl
  | cons _ _ _ ih => rw [List.map_cons, List.map_cons, ih]; rfl
theorem Mine.callOk : Mine2.CallOk := fun w s₁ vs ns hk hsz hT hg hol hi h63 => Mine.law_at hk hsz hT hg hol fun b1 b2 hk' hN => Mine.law_all (Mine.ints_vv hi) h63
end
theorem PySem.Challenge.cw_ph0154_02_holds : PySem.Challenge.rw_ph0154_02.Holds :=
  Mine2.D.2 (Mine2.toHolds Mine.callOk)
