import PyProof.Rows.All
import Wide.All
import OpenK.AllK
import Wide.FinOn
import PyProof.AttrMiss
import Open.Tops
import Lean
import PySem.Challenge.RW_vq0009_01
open PySem PySem.W PyProof.Rows PySem.Calls
set_option Elab.async false
namespace Mine
set_option maxRecDepth 100000 in
set_option maxHeartbeats 8000000 in
open_shared pre for PySem.Challenge.pw_vq0009_01 leaving 30
/-! The top's one statement that feeds a generator to a tuple: its run by the machine, cut at states in which the generator runs.
The library's pieces (Open.Pieces) take a top whose states hold no sleeping generator; so this statement's run is made here, and handed to them as a known beginning of the text. -/
section
open Lean Meta Elab
theorem segMore {tb : String → Option Builtin} {p : Program} {w : World} {n₀ : Nat} {ann : Option Value} {b : Nat} (k : Nat) : ∀ {n : Nat} {s : Shared} {t : Thread} {r : Flow × Shared × Code × Pos}, segRun tb p w n₀ ann b n s t = some r → segRun tb p w n₀ ann b (n + k) s t = some r
  | 0, _, _, _, h => by cases h
  | n + 1, s, t, r, h => by
    rw [show n + 1 + k = n + k + 1 by omega]
    unfold segRun at h ⊢
    cases he : endAt b t with
    | some f => rw [he] at h; exact h
    | none =>
      rw [he] at h
      cases hk : stepOk n₀ ann t with
      | false => rw [hk] at h; cases h
      | true =>
        rw [hk] at h
        cases hs : step (denote tb) p w s t with
        | halt o s₂ => rw [hs] at h; cases h
        | go s₂ t₂ => rw [hs] at h; exact segMore k h
/-- the machine's state some steps on -/
def stepsOn (p : Program) (w : World) : Nat → Shared → Thread → Option (Shared × Thread)
  | 0, s, t => some (s, t)
  | n + 1, s, t => match step (denote table) p w s t with
    | .go s' t' => stepsOn p w n s' t'
    | .halt _ _ => none
/-- the heap as a tree, some objects laid open: a map of them -/
def treeOver (objs : Array (Obj × Obj × Lean.Expr)) (l : List Nat) : MetaM Lean.Expr := do
  let ty ← mkArrow (mkConst ``Params) (mkConst ``Obj)
  let rec go (os : Array Lean.Expr) (xs : Array Lean.Expr) : List Nat → MetaM Lean.Expr
    | [] => withLocalDeclD `P (mkConst ``Params) fun P => mkLambdaFVars (xs.push P) (treeE P os 1 0)
    | i :: l => withLocalDeclD `o ty fun x => go (os.set! i x) (xs.push x) l
  let v ← go (objs.map (·.2.2)) #[] l
  defAt `tree (← inferType v) v
/-- a state in which the one generator runs -/
def runningState (tree : Lean.Expr) (l : List Nat) (first old : Array (Obj × Obj × Lean.Expr)) (s s' : Shared) : MetaM (Array (Obj × Obj × Lean.Expr) × PySem.W.State) := do
  let objs ← layObjs old s s'
  unless toExpr s.drawn == toExpr s'.drawn && s.toks == s'.toks && objs.size == first.size do throwError "the sample worlds part"
  for i in [0:objs.size] do
    unless l.contains i || objs[i]!.2.2 == first[i]!.2.2 do throwError "object {i} changes"
  let gens := mkApp2 (mkConst ``Array.mk [0]) (mkConst ``GenState) (listE (mkConst ``GenState) [mkConst ``GenState.running])
  return (objs, { heap := default, gens, drawn := toExpr s.drawn, toks := mkRawNatLit s.toks, tree := some (mkAppN tree (l.map fun i => objs[i]!.2.2).toArray, mkRawNatLit s.heap.objs.size, toExpr s.heap.life) })
abbrev Over := Lean.Expr → Lean.Expr → Lean.Expr → Lean.Expr → Lean.Expr
/-- the statement behind the shared beginning: `a1` steps (in the other world `a2`) to a place in a turn, then `cuts` times `turn` steps, each time to the same thread, then the rest -/
def genPiece (nm : Name) (pE : Lean.Expr) (a1 a2 turn cuts : Nat) (l : List Nat) (r1 r2 : String) : TermElabM Unit := do
  let t0 ← IO.monoMsNow
  let p ← progOf pE
  let c ← match ← openProbe p with | .error m => throwError m | .ok c => pure c
  let (t, t') ← match ← traceTop p (2 * c.steps + 100) 1, ← traceTop p (2 * c.steps + 100) 2 with
    | .ok t, .ok t' => pure (t, t')
    | .error m, _ | _, .error m => throwError m
  let some cells ← cellsD? (← mkAppM ``behindTheImports #[pE]) | throwError "the body"
  let some e := (topsExt.getState (← getEnv)).back? | throwError "no shared beginning"
  let i := e.cells.size
  let (some x0, some x1, some y0, some y1, some cell) := (t.pieces[i-1]?, t.pieces[i]?, t'.pieces[i-1]?, t'.pieces[i]?, cells[i]?) | throwError "the pieces"
  unless x1.steps - a1 == y1.steps - a2 do throwError "the ways do not join"
  let stmt := mkConst ``Stmt
  let stL := mkApp (mkConst ``List [0]) stmt
  let envE := mkConst e.env
  let B := listE (mkConst ``Frame) [mkApp (mkConst ``topFrame) e.q]
  let tb := mkConst ``treeTable
  let one := natE 1
  let body (b : Lean.Expr) := mkApp2 (mkConst ``Code.body) b envE
  let run (f : Name) (n w p s th : Lean.Expr) := mkAppN (mkConst f) #[tb, p, w, e.m0, e.ann, one, n, s, th]
  let stE ← defAt `sts stL (listE stmt [cell])
  let whole : Over := fun _ _ b _ => mkAppN (mkConst ``piecesOf) #[stE, envE, body b, e.posK, B]
  let S1 : PySem.W.State := { heap := default, gens := e.sK.gens, drawn := e.sK.drawn, toks := e.sK.toks, tree := some (mkConst e.sK.tree, mkRawNatLit e.sK.n, e.sK.life) }
  let o1 : Array (Obj × Obj × Lean.Expr) := e.sK.objs.mapIdx fun i n => (x0.s.heap.objs[i]!, y0.s.heap.objs[i]!, mkConst n)
  let th := piecesOf ((t.body.drop i).take 1) t.benv t.bcode x0.pos [topFrame t.framePos]
  let on (w : World) (n : Nat) (x : Shared × Thread) : MetaM (Shared × Thread) := do
    let some r := stepsOn p w n x.1 x.2 | throwError "the machine stops"
    return r
  let mut x ← on (aWorld 1) a1 (x0.s, th)
  let mut y ← on (aWorld 2) a2 (y0.s, th)
  let oF ← layObjs o1 x.1 y.1
  let tree ← treeOver oF l
  let (oX, SX) ← runningState tree l oF oF x.1 y.1
  let follow (w : Lean.Expr) (r : String) (b : Bool) := mkApp3 (mkConst ``World.withFollow) w (mkStrLit r) (mkConst (if b then ``Bool.true else ``Bool.false))
  let ways (b1 b2 : Bool) (w : Lean.Expr) := follow (follow w r2 b2) r1 b1
  let vars {α : Type} (k : Lean.Expr → Lean.Expr → Lean.Expr → Lean.Expr → MetaM α) : MetaM α :=
    withLocalDeclD `w (mkConst ``World) fun w => withLocalDeclD `p (mkConst ``Program) fun p => withLocalDeclD `b stL fun b => withLocalDeclD `os (mkConst ``OsState) fun os => k w p b os
  -- the thread at the place, by evaluation
  let thr : Over ← do
    let v ← vars fun w p b os => do
      let W := ways false false w
      let r ← whnfQuick (run ``segGoT (natE a2) W p (S1.atT W os) (whole w p b os))
      unless r.isAppOfArity ``Option.some 2 do throwError "no state"
      let r ← Dig.kw r.appArg!
      unless r.isAppOfArity ``Prod.mk 4 do throwError "no thread"
      mkLambdaFVars #[w, p, b, os] (r.appArg!.replace fun x => if x == W then some w else none)
    let c ← defAt `thread (← inferType v) v
    Fast.primed.modify (·.insert c.getAppFn.constName! none)
    pure fun w p b os => mkApp4 c w p b os
  let eqn (ws : Lean.Expr → Lean.Expr) (lhs : Over) (rhs : Lean.Expr → Lean.Expr → Lean.Expr → Lean.Expr → MetaM Lean.Expr) : MetaM Lean.Expr := do
    let P ← vars fun w p b os => do
      mkLambdaFVars #[w] (← mkEq (← mkLambdaFVars #[p, b, os] (lhs (ws w) p b os)) (← mkLambdaFVars #[p, b, os] (← rhs (ws w) p b os)))
    byKernelQuick P []
  let go (n : Nat) (ws : Lean.Expr → Lean.Expr) (S S' : PySem.W.State) (th : Over) : MetaM Lean.Expr :=
    eqn ws (fun w p b os => run ``segGoT (natE n) w p (S.atT w os) (th w p b os)) fun w p b os => do mkAppM ``some #[← mkAppM ``Prod.mk #[S'.atT w os, thr w p b os]]
  let mut starts := #[]
  for (b1, b2) in [(false, false), (false, true), (true, false), (true, true)] do
    starts := starts.push (← go (if b1 then a1 else a2) (ways b1 b2) S1 SX whole)
  let mut S := SX
  let mut o := oX
  let mut lems := #[]
  for _ in [0:cuts] do
    x ← on (aWorld 1) turn x
    y ← on (aWorld 2) turn y
    let (o', S') ← runningState tree l oF o x.1 y.1
    lems := lems.push (S, S', ← go turn id S S' thr)
    S := S'
    o := o'
  let left := (x1.steps - a1 - turn * cuts).succ
  let (oE, SE) ← stateOfT o x1.s y1.s
  let posE := toExpr x1.pos
  let ends (S : Lean.Expr) (b : Lean.Expr) : MetaM Lean.Expr := do mkAppM ``some #[← mkAppM ``Prod.mk #[mkConst ``Flow.next, ← mkAppM ``Prod.mk #[S, ← mkAppM ``Prod.mk #[body b, posE]]]]
  let Sl := S
  let last ← eqn id (fun w p b os => run ``segRunT (natE left) w p (Sl.atT w os) (thr w p b os)) fun w _ b os => ends (SE.atT w os) b
  let side (ty pf : Lean.Expr) : MetaM Lean.Expr := do return mkConst (← withOptions (Elab.async.set · false) (mkAuxLemma [] ty pf (cache := false)))
  let Nc := left + turn * cuts
  let Nt := Nc + a2
  let common ← do
    let (ty, pf) ← vars fun w p b os => do
      let r ← ends (SE.at w os) b
      let mut k ← mkAppM ``segRun_of #[← atS last w p b os]
      let mut N' := natE left
      for (Sp, Sn, l) in lems.toList.reverse do
        k := mkAppN (mkConst ``seg_go) #[tb, p, w, e.m0, e.ann, one, natE turn, N', Sp.at w os, Sn.at w os, thr w p b os, thr w p b os, r.appArg!, ← mkAppM ``segGo_of #[← atS l w p b os], k]
        N' := mkApp2 (mkConst ``Nat.add) (natE turn) N'
      pure (← mkForallFVars #[w, p, b, os] (← mkEq (run ``segRun (natE Nc) w p (SX.at w os) (thr w p b os)) r), ← mkLambdaFVars #[w, p, b, os] k)
    side ty pf
  let P ← vars fun w p b os => do
    mkLambdaFVars #[w] (← mkForallFVars #[p, b, os] (← mkEq (run ``segRun (natE Nt) w p (S1.at w os) (whole w p b os)) (← ends (SE.at w os) b)))
  let leaf (j : Nat) (b1 b2 : Bool) : MetaM Lean.Expr := do
    let some start := starts[j]? | throwError "a way"
    let n := if b1 then a1 else a2
    let (ty, pf) ← vars fun w p b os => do
      let W := ways b1 b2 w
      let r := (← ends (SE.at W os) b).appArg!
      let k := mkAppN (mkConst ``seg_go) #[tb, p, W, e.m0, e.ann, one, natE n, natE Nc, S1.at W os, SX.at W os, whole W p b os, thr W p b os, r, ← mkAppM ``segGo_of #[← atS start w p b os], mkAppN common #[W, p, b, os]]
      let k := mkAppN (mkConst ``segMore) #[tb, p, W, e.m0, e.ann, one, natE (a2 - n), mkApp2 (mkConst ``Nat.add) (natE n) (natE Nc), S1.at W os, whole W p b os, r, k]
      pure (← mkForallFVars #[w] (mkApp P W).headBeta, ← mkLambdaFVars #[w, p, b, os] k)
    side ty pf
  let row (r : String) (P hf ht : Lean.Expr) := mkApp4 (mkConst ``byRow2) (mkStrLit r) P hf ht
  let P1 (b : Bool) : MetaM Lean.Expr := withLocalDeclD `w (mkConst ``World) fun w => do mkLambdaFVars #[w] (mkApp P (follow w r1 b)).headBeta
  let lem ← do
    let ty ← withLocalDeclD `w (mkConst ``World) fun w => do mkForallFVars #[w] (mkApp P w).headBeta
    side ty (row r1 P (row r2 (← P1 false) (← leaf 0 false false) (← leaf 1 false true)) (row r2 (← P1 true) (← leaf 2 true false) (← leaf 3 true true)))
  let chain := nm ++ `chain
  let pf ← vars fun w p b os => withLocalDeclD `rest stL fun rest => withLocalDeclD `N (mkConst ``Nat) fun N => withLocalDeclD `r (mkConst ``Shared) fun r => do
    let hyp ← mkEq (mkAppN (mkConst ``topRun) #[tb, p, w, e.m0, e.ann, N, SE.at w os, mkAppN (mkConst ``restOf) #[rest, envE, body b, posE, B]]) (← mkAppM ``some #[r])
    withLocalDeclD `h hyp fun h => do
      let k := mkAppN (mkConst ``piece_app) #[tb, p, w, e.m0, e.ann, envE, e.q, natE Nt, N, S1.at w os, SE.at w os, r, stE, rest, body b, e.posK, posE, mkAppN lem #[w, p, b, os], h]
      mkLambdaFVars #[p, b, w, os, rest, N, r, h] (mkAppN (mkConst e.chain) #[p, b, w, os, ← mkAppM ``HAppend.hAppend #[stE, rest], mkApp2 (mkConst ``Nat.add) (natE Nt) N, r, k])
  addDecl (.thmDecl { name := chain, levelParams := [], type := ← inferType pf, value := pf })
  let e' : TopEntry := { e with cells := e.cells.push cell, groups := e.groups.push stE.constName!, steps := e.steps.push Nt, chain := chain, posK := posE, sK := ← noteOf oE SE }
  modifyEnv fun env => topsExt.setState env #[e']
  logInfo m!"GENERATOR {x1.steps} steps, {(← IO.monoMsNow) - t0} ms"
end
set_option maxRecDepth 100000 in
set_option maxHeartbeats 8000000 in
theorem genDone : True := by
  run_tac genPiece `Mine.gen (Lean.mkConst ``PySem.Challenge.pw_vq0009_01) 154 164 392 31 [267, 271, 273] "comprehension-iter-twice" "special-get-raises"
  trivial
set_option maxRecDepth 100000 in
set_option maxHeartbeats 8000000 in
open_top hd for PySem.Challenge.rw_vq0009_01
section
/-! A law whose top has left a (finished) generator and whose call makes a nested def: the head for both at once. -/

theorem endsNG {c : ClaimW} {s₀ s₁ s' : Shared} {args : List WData} {vs : List Value} {as : List Addr} {r : Result}
    (hsame : c.same = none) (hwi : c.within = []) (hi : ∀ a b, c.ident a b = true)
    (hrd : ReadsAllW c.records (classAt s₀.heap) s₁.heap vs args as) (hold : ∀ a ∈ as, ∃ o, s₁.heap.get? a = some o) (hos₁ : s₁.os = s₀.os)
    (g : GoodWG c (classAt s₀.heap) (ExcName.means s₀.heap) args { s₁ with gens := #[] } r s') :
    c.Ends s₀ args vs s₁ r s' ∧ s'.os = s₀.os := by
  obtain ⟨hcase, hK, hos, _⟩ := g
  refine ⟨?_, hos.trans hos₁⟩
  rcases hcase with ⟨v, d, bs, rfl, hnr, hrv, hpost, hun⟩ | ⟨e, ob, cls, rfl, he, hcls, hpr, hnew⟩
  · refine .inl ⟨v, rfl, hnr, ⟨d, args, bs, as, hrv, hrd.keepsK (fun b o e hc => hK.get_of_cls e hc), hpost, fun hu => ⟨(hun hu).1, (hun hu).2, fun a ha hb => ?_⟩, fun _ _ => hi _ _⟩,
      (fun i h => by rw [hsame] at h; cases h), (fun b o hb _ _ => hK.old b o hb), fun i h => by rw [hwi] at h; cases h⟩
    obtain ⟨o, ho⟩ := hold a hb
    have hn := (hun hu).2 a ha
    rw [show s₁.heap.get? a = none from hn] at ho
    cases ho
  · exact .inr ⟨e, ob, cls, rfl, he, hcls, hpr, hnew, fun b o hb => hK.old b o hb⟩

/-- the walk of a law whose top left a generator: the call may grow tables of code, and makes no generator -/
abbrev WalkNG (q : Program) (loose : List Str) (XP : (Str → Option Value) → Heap → Prop) (YP : World → Heap → Prop) (r : RowW) (d : DefRec) (kwd : List (Str × Expr)) (run : Value → List Value → Sem Value) : Prop :=
  ∀ (w : World) (s₀ s₁ : Shared) (mg mb : Str → Option Value), Ground q loose r.records XP w s₀ mg mb s₁.heap → YP w s₁.heap → ∀ (a : Addr) (o : Obj) (pm cd doc dV kV : Value), s₁.heap.get? a = some o →
    o.data = .func { docDef d.name d.params d.body d.scope pm cd doc with defaults := dV, kwdefaults := kV } → s₁.heap.CodeRec cd d.name → Dflts mg s₁.heap d.params kwd dV kV → mg d.name = some (.ref a) → s₁.gens = #[] →
    ∀ (args : List WData) (vals : List Value) (as : List Addr), r.claim.pre args = true → WData.layableAll args = true → ReadsAllW r.records (classAt s₀.heap) s₁.heap vals args as → WellAll w.params s₁.heap vals args → (∀ a ∈ as, (a == sysModules) = false) →
      wpAny (model r.prog w) callerA (run (.ref a) vals) (fun v s' => GoodWG r.claim (classAt s₀.heap) (ExcName.means s₀.heap) args s₁ (.ok (.ret v)) s' ∧ s'.gens = #[])
        (fun e s' => GoodWG r.claim (classAt s₀.heap) (ExcName.means s₀.heap) args s₁ (.error e) s' ∧ s'.gens = #[]) s₁

theorem holdsNG {r : OpenRow} {q : Program} {loose : List Str} {Xt : Shared → Bool} {XP : (Str → Option Value) → Heap → Prop} {α : Type} {Yf : Shared → α} {Ya : World → α} {YP : World → Heap → Prop} {d : DefRec} {kwd : List (Str × Expr)} {N : Nat}
    (left : LeftO r.prog q loose Xt Yf Ya N false) (hY : ∀ w s, Yf s = Ya w → YP w s.heap) (hYk : ∀ w h h', YP w h → (∀ b o, h.get? b = some o → h'.get? b = some o) → YP w h')
    (hX : ∀ s, Xt s = true → XP (s.heap.nsMap mainGlobals) s.heap) (hXk : ∀ mg h h', XP mg h → (∀ b o, h.get? b = some o → h'.get? b = some o) → XP mg h')
    (hdef : defOf q r.name = some (d, kwd)) (hp : r.prog.theDef r.name = some (d.params, d.body, d.scope)) (hk : kwWritten? d.params.kwonlyargs d.params.kw_defaults = some kwd) (hRf : ∀ s, Xt s = true → RecFacts r.records s.heap) (hwr : (!r.writes || r.records.isEmpty) = true)
    (k1 : r.wellSaid = true) (ok : (chainsOk q && opensWell r.prog && (frees r.toRowW && r.within.isEmpty)) = true) (hb : r.prog.bare) (hw : r.toRowW.promised)
    (call : WalkNG q loose XP YP r.toRowW d kwd fun f vs => PySem.call f vs) : r.Holds := by
  obtain ⟨ok1, k5⟩ := Bool.and_eq_true_iff.mp ok
  obtain ⟨hch, o1⟩ := Bool.and_eq_true_iff.mp ok1
  obtain ⟨k5, k6⟩ := Bool.and_eq_true_iff.mp k5
  obtain ⟨hsame, hu, ha, hap, hm⟩ := frees_parts k5
  have hi := ident_freeW hu ha hap
  have hwi : r.toRowW.claim.within = [] := List.isEmpty_iff.mp k6
  refine ⟨k1, hw, ⟨hb, o1, by show r.toRowW.makers.map _ = []; rw [hm]; rfl⟩, hw.witness, fun w => ⟨(left.behind hX hch w).1, fun s' hs' => ?_⟩⟩
  obtain ⟨s₀, hf, hg0, s, hT, hz, hgens, hg, G00, y⟩ := (left.behind (XP := fun mg h => XP mg h ∧ RecFacts r.toRowW.records h) (fun s hs => ⟨hX s hs, hRf s hs⟩) hch w).2 s' hs'
  have G0 : Ground q loose [] XP w s (s.heap.nsMap mainGlobals) (s.heap.nsMap builtinsNs) s.heap := ⟨G00.T, G00.B, G00.D, G00.TE, G00.TD, G00.W, G00.X.1, G00.cls, G00.has, G00.apart, G00.once, G00.K⟩
  have RF := G00.X.2
  have hT' := hT
  refine ⟨s₀, hf, hg0, s, hT, fun n hn => ?_, RF.1, RF.2.1, ?_⟩
  · obtain rfl : n = r.name := by split at hn <;> simp_all
    exact pinned_of_view hg G0 hdef hp hk
  have hgens : leftWithCleanup s.gens = false := by simpa using hgens
  have G : Ground q loose r.toRowW.records XP w s _ _ s.heap := RF.ground G0
  refine ClaimW.callFrom_of_specN (c := r.toRowW.claim) hz hgens fun args hpre hlay ord hord => ?_
  obtain ⟨⟨vs, s₁⟩, hlaid⟩ := Option.isSome_iff_exists.mp (layAllW_isSome (P := w.params) (ord := ord) G.has args r.toRowW.args s (pre_splitW hpre).1)
  have keeps := layAllW_keeps _ _ _ hlaid
  have hal := layAllW_rest _ _ _ hlaid
  obtain ⟨as, hrd, hin, hold⟩ := reads_layAllW hord _ _ _ hlaid hlay s₁.heap (fun _ _ e => e)
  have G₁ := G.keeps hXk keeps
  obtain ⟨a, o, pm, cd, doc, dV, kV, h1, h2, h3, h4, h5⟩ := G₁.fn hdef
  have h := call w s { s₁ with gens := #[] } _ _ G₁ (hYk _ _ _ (hY w s y) keeps) a o pm cd doc dV kV h2 h3 h4 h5 (defOf_name hdef ▸ h1) rfl args vs as hpre hlay hrd (well_layAllW hord args s _ hlaid _ fun _ _ e => e)
    (fun b hb' => beq_eq_false_iff_ne.mpr fun e => by have := (hin.2.2 b hb').1; subst e; exact absurd G.low (Nat.not_lt.mpr this))
  refine ⟨vs, s₁, hlaid, ?_⟩
  have fin : ∀ (res : Result) (s'' : Shared), GoodWG r.toRowW.claim (classAt s.heap) (ExcName.means s.heap) args { s₁ with gens := #[] } res s'' ∧ s''.gens = #[] →
      r.toRowW.claim.Ends s args vs s₁ res s'' ∧ s''.os = s.os ∧ s''.gens = #[] ∧ (r.writes = true → namesKept r.prog r.keeps s.heap s''.heap ∧ ∀ x ∈ r.toRowW.records, ∀ a, classAt s.heap x.1 = some a → recordClass s''.heap a x.1 (x.2.map (·.1)) = true) := fun res s'' g => by
    have z := endsNG (c := r.toRowW.claim) hsame hwi hi hrd hold hal.2.2.1 g.1
    exact ⟨z.1, z.2, g.2, fun q => ⟨namesKept_of hT' hg r.keeps keeps g.1.2.1.old, noTable hwr q⟩⟩
  exact wpAny_bind (wpAny_nsGet G₁.T.g (by
    rw [show (s.heap.nsMap mainGlobals) r.name = some (.ref a) from h1]
    exact wpAny_bind (wpAny_mono h (fun v s'' g => wpAny_pure ⟨_, rfl, fin _ _ g⟩) fun e s'' g => fin _ _ g)))

theorem postNG {M : Model} {A : Around} {cd : Code} {s s₁ : Shared} {cw : ClaimW} {cl : Str → Option Addr} {mean : ExcName → Option Value} {args : List WData} {tabs : List (Addr × Addr)} (hT : TabsAt tabs s₁.heap) (hr : ∀ a x, cw.raises a x = false)
    (h : codeAny M A cd (fun r s' => GoodW cw cl mean args { s₁ with heap := ghostOf s₁.heap tabs } r s' ∧ GrownAll tabs s'.heap) s) :
    codeAny M A cd (fun r s' => GoodWG cw cl mean args s₁ r s' ∧ s'.gens = #[]) s := by
  refine codeAny_mono h fun r s' g => ⟨?_, g.1.2.2.2⟩
  obtain ⟨⟨hc, hk, hos, hg⟩, hgr⟩ := g
  -- an object that is no table stays; a table was empty and has grown
  have off : ∀ b o, b ∉ tabs.map (·.2) → s₁.heap.get? b = some o → s'.heap.get? b = some o := fun b o hb e => hk b o (ghost_ne e hb)
  have tab : ∀ b o, b ∈ tabs.map (·.2) → s₁.heap.get? b = some o → isCodeTable s₁.heap b ∧ o = tabObj #[] ∧ ∃ ps, s'.heap.get? b = some (tabObj ps) := by
    intro b o hb e
    obtain ⟨q, hq, rfl⟩ := List.mem_map.mp hb
    have t2 := (hT q hq).2
    have oe : o = tabObj #[] := by rw [t2] at e; exact (Option.some.inj e).symm
    exact ⟨((hT q hq).1.tab t2).isCodeTable, oe, hgr.get q hq⟩
  have old : OldK s₁.heap s'.heap := by
    constructor
    · intro b o e
      by_cases hb : b ∈ tabs.map (·.2)
      · obtain ⟨ht, rfl, ps, hP⟩ := tab b o hb e
        exact .inr (.inl ⟨ht, rfl, #[], ps, rfl, by rw [Array.empty_append]; exact hP⟩)
      · exact .inl (off b o hb e)
    · intro b o e
      by_cases hb : b ∈ tabs.map (·.2)
      · obtain ⟨_, _, ps, hP⟩ := tab b o hb e
        exact ⟨_, hP⟩
      · exact ⟨o, off b o hb e⟩
  refine ⟨?_, old, hos, .of_eq hg⟩
  rcases hc with ⟨v, d, as, r1, r2, r3, r4, r5⟩ | ⟨e, ob, x, _, _, _, r4, _⟩
  · refine .inl ⟨v, d, as, r1, r2, r3, r4, fun q => ⟨(r5 q).1, fun a ha => ?_⟩⟩
    by_cases hb : a ∈ tabs.map (·.2)
    · cases q1 : s₁.heap.get? a with
      | none => rfl
      | some o =>
        obtain ⟨_, _, ps, hP⟩ := tab a o hb q1
        exact absurd ha (readsW_apart hP rfl r3)
    · cases q1 : s₁.heap.get? a with
      | none => rfl
      | some o =>
        have z := (r5 q).2 a ha
        rw [show (ghostOf s₁.heap tabs).get? a = some o from ghost_ne q1 hb] at z
        cases z
  · rw [hr] at r4; cases r4
theorem enterNG {M : Model} {A : Around} {s : Shared} {f : Value} {pos : List Value} {kw : List (Str × Value)} {c : ClaimW} {cl : Str → Option Addr} {mean : ExcName → Option Value} {args : List WData} {s₁ : Shared}
    (h : codeAny M A (.call f ⟨pos, kw⟩) (fun r s' => GoodWG c cl mean args s₁ r s' ∧ s'.gens = #[]) s) :
    wpAny M A (PySem.call f pos kw) (fun v s' => GoodWG c cl mean args s₁ (.ok (.ret v)) s' ∧ s'.gens = #[]) (fun e s' => GoodWG c cl mean args s₁ (.error e) s' ∧ s'.gens = #[]) s :=
  wpAny_call (codeAny_mono h fun res s' g => by rcases g.1.1 with ⟨v, _, _, rfl, _⟩ | ⟨e, _, _, rfl, _⟩ <;> exact g)
/-- the walker forgets what it kept of another theorem's walk, under other lines -/
def afresh : Lean.Elab.Tactic.TacticM Unit := do
  walkTop.set false
  finHit.set none
  finFell.set {}
  walkHit.set {}
  walkLines.set (0, {})
end
section
open Lean Meta Elab
/-- the head for a walk that may grow tables and makes no generator, out of the library's head -/
def headNG : MetaM Lean.Expr := do
  let some (.thmInfo v) := (← getEnv).find? `Mine.hd | throwError "no head"
  let some e := v.value.find? fun x => x.isAppOf ``PySem.W.holds_openN && x.appArg!.isBVar | throwError "the head's proof"
  let g := mkAppN (Lean.mkConst ``Mine.holdsNG) e.getAppArgs.pop
  let .forallE n d _ _ ← whnf (← inferType g) | throwError "the head's premise"
  withLocalDecl n .default d fun walk => do
    mkLambdaFVars #[walk] (v.value.bindingBody!.replace fun x => if x == e then some (mkApp g walk) else none)
end
set_option maxRecDepth 100000 in
set_option maxHeartbeats 8000000 in
theorem hd2 : (by_elab do Lean.Meta.inferType (← headNG)) := by
  run_tac do (← Lean.Elab.Tactic.getMainGoal).assign (← headNG)
section
open PySem.Builtin
set_option maxRecDepth 100000
namespace Jn
theorem slot : Slot "bytes" "join" "bytes.join" :=
  .of (owner := "bytes") (n := "join") (by rw [typeLookup_type, builtinLookup_eq_fast]; kernel_rfl) (by decide +kernel) (by decide +kernel) (by decide +kernel)
    (by first | exact .inl (by decide +kernel) | exact .inr (by decide +kernel)) (by rw [isSubtype_type]; kernel_rfl)
theorem type_eq : typeOf (.builtin "bytes.join") = pure (.type "method_descriptor") := by show builtinType _ = _; rw [builtinType_eq_fast]; kernel_rfl
theorem entry : entryFor table "bytes.join" = some Builtin.«bytes.join» := entryFor_of_fast (by kernel_rfl)
theorem args (a b : Value) : argsOk "bytes.join" ⟨[a, b], []⟩ := by unfold argsOk; kernel_rfl
theorem look_ga : typeLookup (.type "bytes") "__getattribute__" = pure (some (.builtin "bytes.__getattribute__")) := by rw [typeLookup_type, builtinLookup_eq_fast]; kernel_rfl
theorem canon_ga : (Manifest.canonical "bytes.__getattribute__" != "object.__getattribute__") = false := by decide +kernel
theorem no_getattr : typeLookup (.type "bytes") "__getattr__" = pure none := by rw [typeLookup_type, builtinLookup_eq_fast]; kernel_rfl
section
variable {prog : Program} {w : World} {M : Model} {A : Around} {E : Value → Shared → Prop} {s : Shared} {t : Tok}
theorem method {b : Array UInt8} {pl : Sem Bool} {Q : Value × List Value → Shared → Prop} (h : Q (.builtin "bytes.join", [.bytes b t]) s) :
    wpAny M A (getMethod (.bytes b t) (PySem.Str.ofString "join") pl) Q E s :=
  getMethod_value (T := "bytes") (name := PySem.Str.ofString "join") (ga := "bytes.__getattribute__") (id := "bytes.join") (typeIs_bytes s b t) (by intro _ x; cases x) look_ga canon_ga no_getattr slot.lookup type_eq h
def bval (p : Array UInt8 × Tok) : Value := .bytes p.1 p.2
theorem take_eq {id : String} {b : Array UInt8} {u : Tok} : Bytes.takeBufferQuiet? id (.bytes b u) 0 = pure (some (b, none)) := by
  unfold Bytes.takeBufferQuiet? Bytes.takeBuffer?
  rw [KBy.special_eq KBy.look_buffer, KBy.own_buffer]
  have e : ((0 : Int) == Bytes.fullReadOnly) = false := by decide +kernel
  rw [e, KBy.buffer_eq]
  rfl
theorem forIn_inv {β : Type} {M : Model} {A : Around} {E : Value → Shared → Prop} {s : Shared} {n : Nat} (f : Nat → β → Sem (ForInStep β)) (I : Nat → β → Prop)
    (h : ∀ i b, i < n → I i b → wpAny M A (f i b) (fun r s' => s' = s ∧ ∃ b', r = .yield b' ∧ I (i + 1) b') E s) :
    ∀ k i b, i + k = n → I i b → wpAny M A (forIn (List.range' i k) b f) (fun r s' => s' = s ∧ I n r) E s
  | 0, i, b, e, hI => by
    have : i = n := by omega
    subst this
    rw [List.range'_zero, List.forIn_nil]
    exact wpAny_pure ⟨rfl, hI⟩
  | k + 1, i, b, e, hI => by
    rw [List.range'_succ, List.forIn_cons]
    refine wpAny_bind (wpAny_mono (h i b (by omega) hI) ?_ fun _ _ x => x)
    rintro r s' ⟨rfl, b', rfl, hI'⟩
    exact forIn_inv f I h k (i + 1) b' (by omega) hI'
theorem letGo_K {l : List (Array UInt8 × Tok)} {keep : List Value} {Q : Unit → Shared → Prop} (h : Q () s) : wpAny M A (Bytes.joinLetGo (l.map fun p => (bval p, none)) keep) Q E s := by
  induction l with
  | nil => exact wpAny_pure h
  | cons p r ih =>
    rw [List.map_cons]
    unfold Bytes.joinLetGo
    refine wpAny_bind ?_
    show wpAny M A (letGo [bval p] _) _ E s
    unfold letGo
    refine wpAny_bind (wpAny_holding (wpAny_point ?_))
    exact wpAny_pure ih
def octs : List (Array UInt8 × Tok) → List Int
  | [] => []
  | p :: r => KBw.bInts p.1 ++ octs r
theorem octs_snoc (a : List (Array UInt8 × Tok)) (p : Array UInt8 × Tok) : octs (a ++ [p]) = octs a ++ KBw.bInts p.1 := by
  induction a with
  | nil => simp [octs]
  | cons q r ih => simp only [List.cons_append, octs, ih, List.append_assoc]
theorem bInts_app (b c : Array UInt8) : KBw.bInts (b ++ c) = KBw.bInts b ++ KBw.bInts c := KBw.ints_app rfl rfl
theorem joined_ints (its : List (Array UInt8 × Tok)) : KBw.bInts (Bytes.joined #[] (its.map (·.1))) = octs its := by
  have key : ∀ (l : List (Array UInt8 × Tok)) (k : Nat) (acc : Array UInt8), KBw.bInts (((l.map (·.1)).zipIdx k).foldl (fun out (p, i) => (if i > 0 then out ++ #[] else out) ++ p) acc) = KBw.bInts acc ++ octs l := by
    intro l
    induction l with
    | nil => intro k acc; simp [octs]
    | cons p r ih =>
      intro k acc
      rw [List.map_cons, List.zipIdx_cons, List.foldl_cons, ih]
      simp only [Array.append_empty, ite_self, bInts_app, octs, List.append_assoc]
  have := key its 0 #[]
  unfold Bytes.joined
  rw [this]
  rfl
theorem sum_sizes (its : List (Array UInt8 × Tok)) : ∀ a : Nat, (its.map (·.1)).foldl (fun (x1 : Nat) (x2 : Array UInt8) => x1 + x2.size) a = a + (octs its).length := by
  induction its with
  | nil => intro a; rfl
  | cons p r ih =>
    intro a
    rw [List.map_cons, List.foldl_cons, ih]
    simp only [octs, List.length_append, KBw.ints_length]
    omega
theorem match_not_one {α : Sort _} {arr : Array Value} {f : Value → α} {g : Array Value → α} (h : ∀ x, arr ≠ #[x]) : Bytes.joinM.match_1 (fun _ => α) arr f g = g arr := by
  obtain ⟨l0⟩ := arr
  match l0, h with
  | [], _ => rfl
  | [x], h => exact absurd rfl (h x)
  | _ :: _ :: _, _ => rfl
theorem join_K {l : Addr} {its : List (Array UInt8 × Tok)} {Q : Value → Shared → Prop} (hl : s.heap.IsList l (its.map bval).toArray)
    (hz : (octs its).length ≤ 16777216)
    (h : ∀ b t' k, KBw.bInts b = octs its → Q (.bytes b t') { s with toks := k }) :
    wpAny (model prog w) A (call (.builtin "bytes.join") [.bytes #[] t, .ref l]) Q E s := by
  refine wpAny_call_entry slot (typeIs_bytes s _ t) entry ?_ (args _ _)
  obtain ⟨o, ho, hc, n, hd⟩ := hl
  have seq : ∀ {Q' : Option (Array Value) → Shared → Prop} {A : Around} {E : Value → Shared → Prop}, Q' (some (its.map bval).toArray) s → wpAny (model prog w) A (seqItems? (.ref l)) Q' E s := fun hq => wpAny_seqItems ho hd hq
  have hsz : (its.map bval).toArray.size = its.length := by simp
  have hget : ∀ i (hi : i < its.length), (its.map bval).toArray.getD i .none = bval its[i] := fun i hi => by simp [hi]
  have hone : ∀ x, (its.map bval).toArray = #[x] → ∃ p, its = [p] ∧ x = bval p := fun x hx => by
    have hx' : its.map bval = [x] := by simpa using hx
    match its, hx' with
    | [p], hx' => exact ⟨p, rfl, by simpa using hx'.symm⟩
  generalize (its.map bval).toArray = arr at seq hsz hget hone hd
  unfold Builtin.«bytes.join» Bytes.joinM
  refine wpAny_bind (wpAny_of_eq (a := (Value.bytes #[] t, Value.ref l)) rfl ?_)
  dsimp only
  rw [if_pos (by decide)]
  refine wpAny_bind ?_
  unfold Bytes.joinItems
  refine wpAny_bind (wpAny_typeOf (T := "list") ⟨o, ho, hc⟩ ?_)
  rw [if_pos (by decide)]
  refine wpAny_pure ?_
  refine wpAny_bind (seq ?_)
  dsimp only
  rw [if_pos (by decide)]
  by_cases hx : ∃ x, arr = #[x]
  · obtain ⟨x, rfl⟩ := hx
    obtain ⟨p, rfl, rfl⟩ := hone x rfl
    show wpAny (model prog w) A.in1 (typeOf (bval p) >>= fun r => if (r == Value.type "bytes") = true then _ else _) _ E s
    refine wpAny_bind (wpAny_typeOf (T := "bytes") (typeIs_bytes s p.1 p.2) ?_)
    rw [if_pos (by decide)]
    refine wpAny_bind (wpAny_rule (wpAny_pure ⟨_, rfl, ?_⟩))
    exact h p.1 p.2 s.toks (by simp [octs])
  · rw [match_not_one (fun y hy => hx ⟨y, hy⟩)]
    refine wpAny_bind ?_
    rw [Std.Legacy.Range.forIn_eq_forIn_range']
    simp only [hsz]
    refine wpAny_mono (forIn_inv (n := its.length) _ (fun i b => b.1 = ((its.take i).map (·.1)).toArray ∧ b.2 = (its.take i).map (fun p => (bval p, none))) ?_ _ 0 _ ?_ ⟨by simp, by simp⟩) ?_ fun _ _ x => x
    · rintro i ⟨parts, taken⟩ hi ⟨h1, h2⟩
      dsimp only at h1 h2
      subst h1 h2
      refine wpAny_bind (seq ?_)
      dsimp only
      have hany : ((its.take i).map (fun p => (bval p, (none : Option Value)))).any (fun x => x.1.onHeap) = false := by
        rw [List.any_map, List.any_eq_false]
        intro p _
        simp [bval, Value.onHeap]
      rw [if_neg (by rw [hany]; decide)]
      rw [hget i hi]
      refine wpAny_bind (wpAny_holding (wpAny_of_eq take_eq ?_))
      dsimp only
      refine wpAny_bind (seq ?_)
      dsimp only
      rw [if_neg (by rw [hsz]; simp)]
      have e : its.take (i + 1) = its.take i ++ [its[i]] := by rw [List.take_add_one, List.getElem?_eq_getElem hi]; rfl
      refine wpAny_pure ⟨rfl, _, rfl, ?_, ?_⟩
      · show ((its.take i).map (·.1)).toArray.push its[i].1 = ((its.take (i + 1)).map (·.1)).toArray
        rw [e, List.map_append]; simp
      · show (its.take i).map (fun p => (bval p, (none : Option Value))) ++ [(bval its[i], none)] = (its.take (i + 1)).map (fun p => (bval p, none))
        rw [e, List.map_append]; rfl
    · simp [Std.Legacy.Range.size]
    · rintro ⟨parts, taken⟩ s' ⟨rfl, h1, h2⟩
      rw [List.take_length] at h1 h2
      dsimp only at h1 h2
      subst h1 h2
      dsimp only
      refine wpAny_bind (wpAny_of_eq (a := #[]) rfl ?_)
      have hlen : Bytes.tooLong (Array.foldl (fun x1 x2 => x1 + x2.size) ((#[] : Array UInt8).size * ((its.map (·.1)).toArray.size - 1)) (its.map (·.1)).toArray) = false := by
        refine KBy.tooLong_not ?_
        rw [List.foldl_toArray, sum_sizes]
        simpa using hz
      rw [if_neg (by rw [hlen]; decide)]
      have hfin : (Bytes.joined #[] (its.map (·.1))).size ≤ sizeLine := by
        have := joined_ints its
        rw [← KBw.ints_length, this, sizeLine_eq]; exact hz
      refine wpAny_bind ?_
      refine wpAny_mkBytes ?_ hfin
      refine wpAny_bind (wpAny_holding (wpAny_point ?_))
      refine wpAny_bind (letGo_K (wpAny_pure ⟨_, rfl, h _ _ _ (joined_ints its)⟩))
end
end Jn
end
section
open PySem.Builtin
set_option maxRecDepth 100000
namespace Ha
theorem kind : builtinKind "hasattr" = none := by decide +kernel
theorem plain : plainId "hasattr" = true := by decide +kernel
theorem entry : entryFor table "hasattr" = some Builtin.«hasattr» := by first | exact entryFor_of_fast (by kernel_rfl) | exact entryFor_of_tree (by kernel_rfl)
theorem args (a b : Value) : argsOk "hasattr" ⟨[a, b], []⟩ := by unfold argsOk; kernel_rfl
theorem miss : typeLookup (.type "int") (Str.ofString "serialize") = pure none := by rw [typeLookup_type, builtinLookup_eq_fast]; kernel_rfl
theorem miss_t : typeLookup (.type "type") (Str.ofString "serialize") = pure none := by rw [typeLookup_type, builtinLookup_eq_fast]; kernel_rfl
theorem lk_ga : typeLookup (.type "type") (Str.ofString "__getattribute__") = pure (some (.builtin "type.__getattribute__")) := by rw [typeLookup_type, builtinLookup_eq_fast]; kernel_rfl
theorem lk_getattr : typeLookup (.type "type") (Str.ofString "__getattr__") = pure none := by rw [typeLookup_type, builtinLookup_eq_fast]; kernel_rfl
theorem typeOf_int : typeOf (.type "int") = pure (.type "type") := by kernel_rfl
def S : Str := Str.ofString "serialize"
theorem raise_attr {α : Type} {M : Model} {A : Around} {E : Value → Shared → Prop} {s : Shared} {msg : Str} {Q : α → Shared → Prop} (hh : A.handled = none)
    (h : ∀ h' tk e, (∀ b o, s.heap.get? b = some o → h'.get? b = some o) → (∃ ob, h'.get? e = some ob ∧ ob.cls = .type "AttributeError") → E (.ref e) { s with heap := h', toks := tk }) (hm : msg.length ≤ sizeLine) :
    wpAny M A (raiseErrorStr "AttributeError" msg : Sem α) Q E s := by
  unfold raiseErrorStr
  refine wpAny_bind (wpAny_mkStr (wpAny_bind ?_) hm)
  unfold newExc newTuple
  refine wpAny_bind (wpAny_newObj_type ?_ (by size_fits))
  refine wpAny_bind (m := firstArgMember _ _) (wpAny_of_eq (a := Value.none) (by simp only [firstArgMember, attrError_no_first]; rfl) ?_)
  rw [ownMembersOf_AttributeError]
  refine wpAny_newObj_type ?_ (by size_fits)
  unfold raiseNew
  refine wpAny_bind (wpAny_handled ?_)
  rw [hh]
  first
    | refine wpAny_throw ?_
    | refine wpAny_bind (wpAny_pure (wpAny_throw ?_))
  refine h _ _ _ (fun b o e => Heap.get?_push_of_some _ (Heap.get?_push_of_some _ e)) ⟨_, Heap.get?_push_size _ rfl, rfl⟩
theorem ha_eq (u : Tok) : Builtin.«hasattr» ⟨[.type "int", .str S u], []⟩ = (getAttrBy? (.type "int") (.str S u)) >>= fun found =>
    if (found.isNone && ((0 : Nat) == 2)) = true then ((unsupported "hasattr:an-optional-look-up-on-a-module-missed-behind-a-descriptor-of-its-type" : Sem PUnit) >>= fun _ => ret (.bool found.isSome)) else ret (.bool found.isSome) := by kernel_rfl
def msg : Str := Str.ofString "type object 'int' has no attribute 'serialize'"
theorem tg_eq (u : Tok) : Builtin.«type.__getattribute__» ⟨[.type "int", .str S u], []⟩ = (PySem.rule "getattr.type.missing" >>= fun _ => raiseErrorStr "AttributeError" msg) := by kernel_rfl
theorem tg_slot : bindSpecial (.builtin "type.__getattribute__") (.type "int") = pure (.builtin "type.__getattribute__", [.type "int"]) := by kernel_rfl
theorem tg_entry : entryFor table "type.__getattribute__" = some Builtin.«type.__getattribute__» := by first | exact entryFor_of_fast (by kernel_rfl) | exact entryFor_of_tree (by kernel_rfl)
theorem tg_plain : plainId "type.__getattribute__" = true := by decide +kernel
theorem tg_check (u : Tok) : checkBuiltinCall "type.__getattribute__" ⟨[.type "int", .str S u], []⟩ = pure () := by kernel_rfl
section
variable {prog : Program} {w : World} {A : Around} {s : Shared} {u : Tok}
theorem tg_call {E : Value → Shared → Prop} {Q : Value → Shared → Prop} (hA : A.handled = none)
    (h : ∀ h' tk e, (∀ b o, s.heap.get? b = some o → h'.get? b = some o) → (∃ ob, h'.get? e = some ob ∧ ob.cls = .type "AttributeError") → E (.ref e) { s with heap := h', toks := tk }) :
    wpAny (model prog w) A (call (.builtin "type.__getattribute__") [.type "int", .str S u]) Q E s := by
  refine wpAny_call (codeAny_call_builtin tg_plain tg_entry ?_)
  refine wpAny_of_eq (tg_check u) ?_
  rw [tg_eq]
  refine wpAny_bind (wpAny_rule ?_)
  exact raise_attr hA h (by decide +kernel)
theorem getAttrBy_miss {E : Value → Shared → Prop} {Q : Value → Shared → Prop} (hA : A.handled = none)
    (h : ∀ h' tk e, (∀ b o, s.heap.get? b = some o → h'.get? b = some o) → (∃ ob, h'.get? e = some ob ∧ ob.cls = .type "AttributeError") → E (.ref e) { s with heap := h', toks := tk }) :
    wpAny (model prog w) A (getAttrBy (.type "int") (.str S u) false) Q E s := by
  unfold getAttrBy
  refine wpAny_holding ?_
  refine wpAny_bind (wpAny_of_eq typeOf_int ?_)
  refine wpAny_bind (wpAny_of_eq lk_ga ?_)
  dsimp only
  rw [if_neg (by decide)]
  unfold getAttrByItsOwn
  refine wpAny_bind (wpAny_of_eq (a := none) rfl ?_)
  refine wpAny_bind (wpAny_attempt ?_)
  refine wpAny_holding ?_
  unfold callGetattribute
  rw [if_neg (by decide)]
  unfold boundAndCalled
  refine wpAny_bind (wpAny_of_eq tg_slot ?_)
  refine tg_call hA fun h' tk e k x => ?_
  dsimp only
  unfold getattributeRaised
  obtain ⟨ob, he, hc⟩ := x
  refine wpAny_bind (wpAny_isInstance (T := "AttributeError") ⟨ob, he, hc⟩ sub_AttributeError ?_)
  rw [if_pos rfl]
  refine wpAny_bind (wpAny_of_eq (a := none) (by show typeLookup _ _ = _; exact lk_getattr) ?_)
  unfold hookOrError attributeErrorLeaves
  rw [if_pos (by decide)]
  exact wpAny_throw (h _ _ _ k ⟨ob, he, hc⟩)
theorem hasattr_int {E : Value → Shared → Prop} {Q : Value → Shared → Prop} (hA : A.handled = none)
    (h : ∀ h' tk, (∀ b o, s.heap.get? b = some o → h'.get? b = some o) → Q (.bool false) { s with heap := h', toks := tk }) :
    wpAny (model prog w) A (call (.builtin "hasattr") [.type "int", .str (Str.ofString "serialize") u]) Q E s := by
  refine call_function_entry kind plain entry (args _ _) ?_
  have e := ha_eq u
  unfold S at e
  rw [e]
  refine wpAny_bind ?_
  unfold getAttrBy?
  refine wpAny_bind (wpAny_attempt ?_)
  refine getAttrBy_miss hA fun h' tk e k x => ?_
  obtain ⟨ob, he, hc⟩ := x
  refine wpAny_bind (wpAny_isInstance (T := "AttributeError") ⟨ob, he, hc⟩ sub_AttributeError ?_)
  rw [if_pos rfl]
  refine wpAny_pure ?_
  rw [if_neg (by decide)]
  exact wpAny_pure ⟨_, rfl, h _ _ k⟩
theorem hasattr_K {E : Value → Shared → Prop} {Q : Value → Shared → Prop} {h₀ : Heap} {L : Addr} {m : Str → Option Value} {news : List (Addr × Obj)} (F : Fr h₀ L s.heap m) (N : News h₀ L s.heap news) (hA : A.handled = none)
    (h : ∀ h' tk, Fr h₀ L h' m → News h₀ L h' news → Q (.bool false) { s with heap := h', toks := tk }) :
    wpAny (model prog w) A (call (.builtin "hasattr") [.type "int", .str (Str.ofString "serialize") u]) Q E s :=
  hasattr_int hA fun h' tk k => h h' tk (F.keptAll k) (N.grown k)
end
end Ha
end
section
abbrev Ct (w : World) (f : Addr) (vs : List Value) (news : List (Addr × Obj)) (R : Value → List (Addr × Obj) → Prop) : Prop :=
  ∀ (loose : List Str) (mean : ExcName → Option Value) (mg mb : Str → Option Value) (dp un : Nat) (gd : Option (List Code)) (cn : Str) (cs : Scope) (a : Addr) (ccd : Value) (cl : List (Str × Addr)) (outer : List Env) (A₀ : Around) (base h₀ : Heap) (L : Addr) (m : Str → Option Value) (s : Shared) (Q E : Value → Shared → Prop),
    Below A₀ base outer h₀ → Fr h₀ L s.heap m → (hd.heap_39 w.params).In h₀ → News h₀ L s.heap news → Top topProg loose mean mg mb h₀ → CodeHd base 116 112 → CodeHd base 70 66 → cs.kind = .function → dp + 30 < recursionLimit → un + 300 < cLine →
    (∀ v h' tk' news', R v news' → Fr h₀ L h' m → News h₀ L h' news' → Q v { s with heap := h', toks := tk' }) →
    wpAny (model PySem.Challenge.rw_vq0009_01.row.prog w) (ktrTop dp un gd cn cs L a ccd cl outer) (call (.ref f) vs) Q E s

/-- an address above all of a ledger's -/
def bnd : List (Addr × Obj) → Nat
  | [] => 0
  | p :: l => max (Nat.succ p.1) (bnd l)
theorem allLt_bnd {d : Addr} : ∀ {l : List (Addr × Obj)}, AllLt d l = (bnd l ≤ d)
  | [] => by simp [AllLt, bnd]
  | q :: l => by
    have ih := allLt_bnd (d := d) (l := l)
    simp only [AllLt, bnd, ih]
    exact propext (by
      constructor
      · rintro ⟨a, b⟩; exact Nat.max_le.mpr ⟨a, b⟩
      · intro h; exact Nat.max_le.mp h)
theorem bnd_ne {d : Addr} {l : List (Addr × Obj)} (h : bnd l ≤ d) : ∀ p ∈ l, p.1 ≠ d := by
  induction l with
  | nil => intro p hp; cases hp
  | cons q l ih =>
    intro p hp
    have h2 := Nat.max_le.mp h
    rcases List.mem_cons.mp hp with rfl | hp
    · exact Nat.ne_of_lt h2.1
    · exact ih h2.2 p hp

/-- protobuf's octets -/
def pv (n : Nat) : List Int := if h : n < 128 then [(n : Int)] else (128 + (n % 128 : Nat) : Int) :: pv (n / 128)
termination_by n
decreasing_by omega
open Jn (octs bval)
/-- a place at which the walk stops -/
def Stop (P : Prop) : Prop := P
theorem Stop.on {P : Prop} (h : Stop P) : P := h
theorem Stop.off {P : Prop} (h : P) : Stop P := h

section
variable {prog : Program} {w : World} {A : Around} {E : Value → Shared → Prop} {Q : Flow → Shared → Prop} {s : Shared} {env : Env} {h₀ : Heap} {L : Addr}
structure EncSt where
  v : Nat
  pcs : List (Array UInt8 × Tok)
  k : Nat
  tb : Tok
  tv : Tok
abbrev encLed (pre : List (Addr × Obj)) (l : Addr) (rest : List (Addr × Obj)) (x : EncSt) : List (Addr × Obj) := pre ++ (l, W.listOf (x.pcs.map bval).toArray x.k) :: rest
abbrev encPs (x : EncSt) : List (Str × Value) := [(Str.ofString "bits", .int (x.v % 128 : Nat) x.tb), (Str.ofString "value", .int (x.v / 128 : Nat) x.tv)]
def encP (n : Nat) (x : EncSt) : Prop := octs x.pcs ++ pv x.v = pv n ∧ x.pcs.length = (octs x.pcs).length
theorem pv_len (k : Nat) : ∀ n : Nat, n < 128 ^ (k + 1) → (pv n).length ≤ k + 1 := by
  induction k with
  | zero => intro n h; unfold pv; rw [dif_pos (by simpa using h)]; simp
  | succ k ih =>
    intro n h
    unfold pv
    split
    · simp
    · have : n / 128 < 128 ^ (k + 1) := by
        rw [Nat.div_lt_iff_lt_mul (by decide)]; rw [Nat.pow_succ] at h; exact h
      have := ih _ this
      simp only [List.length_cons]; omega
theorem pv_pos (n : Nat) : 0 < (pv n).length := by unfold pv; split <;> simp
theorem enc_loop {test : PySem.Expr} {body : List Stmt} {pos : Pos} {m₀ : Str → Option Value} (pre : List (Addr × Obj)) {l : Addr} {rest : List (Addr × Obj)} (n : Nat) {b v : Int} {tb tv : Tok}
    (F : Fr h₀ L s.heap m₀) (N : News h₀ L s.heap (pre ++ (l, W.listOf #[] 0) :: rest))
    (hb : m₀ (Str.ofString "bits") = some (.int b tb)) (hv : m₀ (Str.ofString "value") = some (.int v tv)) (eb : b = ((n % 128 : Nat) : Int)) (ev : v = ((n / 128 : Nat) : Int)) (hn : n < 2 ^ 64)
    (turn : ∀ (x : EncSt) (u : Str → Option Value) h tk, encP n x → x.pcs.length ≤ 16 → Fr h₀ L h (kstB (fun z => if ([] : List Str).contains z then u z else m₀ z) (encPs x)) → News h₀ L h (encLed pre l rest x) →
      wpAny (model prog w) A (isTrue test env (eval test env)) (fun b s₂ =>
        if b = true then wpAny (model prog w) A (execs body env) (KswPost h₀ L s (encLed pre l rest) encPs (fun _ => True) [] m₀ (encP n) (fun x => x.v) Q x) E s₂ else Q .next s₂) E { s with heap := h, toks := tk })
    (hE : PassesOwn (model prog w) A env E := by passes_own) :
    wpAny (model prog w) A (exec (.While test body [] pos) env) Q E s := by
  refine ksw_while (encLed pre l rest) encPs (fun _ => True) [] (encP n) (fun x => x.v) ⟨n, [], 0, tb, tv⟩ F N trivial ?_ ⟨rfl, rfl⟩ ?_ hE
  · intro p hp
    simp only [encPs, List.mem_cons, List.not_mem_nil, or_false] at hp
    rcases hp with rfl | rfl
    · rw [hb, eb]
    · rw [hv, ev]
  · intro x u h tk _ hP F N
    refine turn x u h tk hP ?_ F N
    have h1 := pv_len 9 n (Nat.lt_of_lt_of_le hn (by decide))
    have h2 := congrArg List.length hP.1
    rw [List.length_append] at h2
    have := hP.2
    omega
end
theorem fdiv_pow (n : Nat) (k : Nat) : Int.fdiv (n : Int) (2 ^ k) = ((n / 2 ^ k : Nat) : Int) := by
  rw [Int.fdiv_eq_ediv_of_nonneg _ (by exact Int.pow_nonneg (by decide))]
  simp
theorem isListOf {h₀ h : Heap} {L l : Addr} {news : List (Addr × Obj)} {its : Array Value} {n : Nat} (N : News h₀ L h news) (hm : (l, W.listOf its n) ∈ news) : h.IsList l its := ⟨_, (N _ hm).1, rfl, n, rfl⟩
theorem or128 (k : Nat) (hk : k < 128) : Builtin.bitOr 128 (k : Int) = ((128 + k : Nat) : Int) := by
  have h : (128 ||| k) = 128 + k := by
    have := Nat.two_pow_add_eq_or_of_lt (i := 7) hk 1
    simpa using this.symm
  rw [← h]
  have key : ∀ a b : Nat, Builtin.bitOr (a : Int) (b : Int) = ((a ||| b : Nat) : Int) := by
    intro a b
    unfold Builtin.bitOr Builtin.bitAnd Builtin.bitNot
    have h1 : decide ((0 : Int) ≤ -(a : Int) - 1) = false := decide_eq_false (by omega)
    have h2 : decide ((0 : Int) ≤ -(b : Int) - 1) = false := decide_eq_false (by omega)
    rw [h1, h2]
    dsimp only
    have e1 : (-(-(a : Int) - 1) - 1).toNat = a := by omega
    have e2 : (-(-(b : Int) - 1) - 1).toNat = b := by omega
    rw [e1, e2]
    omega
  exact key 128 k
theorem bval_snoc (pcs : List (Array UInt8 × Tok)) (b : Array UInt8) (t : Tok) : ((pcs ++ [(b, t)]).map bval).toArray = (pcs.map bval).toArray.push (.bytes b t) := by
  rw [List.map_append]; simp [bval]
theorem pv_step {v : Nat} (h : 128 ≤ v) : pv v = ((128 + v % 128 : Nat) : Int) :: pv (v / 128) := by
  rw [pv, dif_neg (by omega)]; simp
theorem pv_low {v : Nat} (h : v < 128) : pv v = [(v : Int)] := by rw [pv, dif_pos h]
theorem enc_step {n : Nat} {x : EncSt} {b : Array UInt8} {t tb tv : Tok} {k : Nat} (h : encP n x) (hv : ((x.v / 128 : Nat) : Int) ≠ 0) (hb : KBw.bInts b = [((128 + x.v % 128 : Nat) : Int)]) : encP n ⟨x.v / 128, x.pcs ++ [(b, t)], k, tb, tv⟩ := by
  obtain ⟨h1, h2⟩ := h
  have hv' : 128 ≤ x.v := by omega
  refine ⟨?_, ?_⟩
  · rw [Jn.octs_snoc, hb, ← h1, pv_step hv', List.append_assoc]; rfl
  · rw [Jn.octs_snoc, hb]; simp [h2]
theorem enc_last {n : Nat} {x : EncSt} {b : Array UInt8} {t : Tok} (h : encP n x) (hv : ((x.v / 128 : Nat) : Int) = 0) (hb : KBw.bInts b = [((x.v % 128 : Nat) : Int)]) : octs (x.pcs ++ [(b, t)]) = pv n := by
  obtain ⟨h1, h2⟩ := h
  have hv' : x.v < 128 := by omega
  have e : x.v % 128 = x.v := Nat.mod_eq_of_lt hv'
  rw [Jn.octs_snoc, hb, ← h1, pv_low hv', e]
section
variable {prog : Program} {w : World} {A : Around} {E : Value → Shared → Prop} {s : Shared} {t u : Tok} {Q : Value → Shared → Prop} {h₀ : Heap} {L : Addr} {m : Str → Option Value} {news : List (Addr × Obj)}
theorem join_snoc {D : Addr} {pcs : List (Array UInt8 × Tok)} {b : Array UInt8} {k : Nat} (N : News h₀ L s.heap news) (hm : (D, W.listOf ((pcs.map bval).toArray.push (.bytes b t)) k) ∈ news) (hz : (octs (pcs ++ [(b, t)])).length ≤ 16777216)
    (h : ∀ b' t' k', KBw.bInts b' = octs (pcs ++ [(b, t)]) → Q (.bytes b' t') { s with toks := k' }) : wpAny (model prog w) A (call (.builtin "bytes.join") [.bytes #[] u, .ref D]) Q E s :=
  Jn.join_K (its := pcs ++ [(b, t)]) (by rw [bval_snoc]; exact isListOf N hm) hz h
theorem and127 {k : Nat} (h : Q (.int ((k % 128 : Nat) : Int) s.toks) { s with toks := s.toks + 1 }) : wpAny (model prog w) A (binaryOp .BitAnd (.int (k : Int) t) (.int 127 u)) Q E s := by
  refine and_int ?_
  rw [bitAnd_m7]
  exact h
theorem or128_K {k : Nat} (hk : k < 128) (h : Q (.int ((128 + k : Nat) : Int) s.toks) { s with toks := s.toks + 1 }) : wpAny (model prog w) A (binaryOp .BitOr (.int 128 t) (.int (k : Int) u)) Q E s := by
  refine or_int ?_
  rw [or128 k hk]
  exact h
theorem rsh7 {k : Nat} (h : Q (.int ((k / 128 : Nat) : Int) s.toks) { s with toks := s.toks + 1 }) : wpAny (model prog w) A (inplaceOp .RShift (.int (k : Int) t) (.int 7 u)) Q E s := by
  refine irshift_int (by decide) ?_
  rw [show (7 : Int).toNat = 7 from rfl, fdiv_pow k 7]
  exact h
theorem bytes1 {D : Addr} {x : Int} (F : Fr h₀ L s.heap m) (N : News h₀ L s.heap news) (hm : (D, W.listOf #[.int x t] 0) ∈ news) (h0 : 0 ≤ x) (h1 : x < 256) (hh : A.handled = none)
    (h : ∀ b t' k h', KBw.bInts b = [x] → Fr h₀ L h' m → News h₀ L h' news → Q (.bytes b t') { s with heap := h', toks := k }) : wpAny (model prog w) A (call (.type "bytes") [.ref D]) Q E s := by
  have hI : KBa.In [x] := fun n hn => by rw [List.mem_singleton.mp hn]; exact ⟨h0, h1⟩
  exact KBa.make_K (vs := [.int x t]) F N hh (isListOf N hm) (IntsAre.cons _ _ .nil) hI (by simp) fun h' t' k F' N' _ => h _ t' k h' (KBa.ints_make hI) F' N'
end
/-- the code that the maker of a lambda keeps: none yet, or the lambda's -/
inductive VT : List (Addr × Obj) → Prop
  | fresh : VT [(66, tabObj #[])]
  | made (c : Addr) (oc : Obj) (vs : Array Value) (t : Tok) : oc.data = .fields vs → vs[1]? = some (.str (Str.ofString "_VarintBytes.<locals>." ++ Str.ofString "<lambda>") t) → @LT.lt Nat _ 66 c → VT [(c, oc), (66, tabObj #[rawInt 36, rawInt 18, .ref c])]
def Off (led news : List (Addr × Obj)) : Prop := ∀ p ∈ news, ∀ q ∈ led, p.1 ≠ q.1
theorem VT.grown {news : List (Addr × Obj)} {c : Addr} {oc : Obj} {vs : Array Value} {t : Tok} (h1 : oc.data = .fields vs) (h2 : vs[1]? = some (.str (Str.ofString "_VarintBytes.<locals>." ++ Str.ofString "<lambda>") t)) (h3 : @LT.lt Nat _ 66 c) (h4 : @LE.le Nat _ (bnd news) c) (hn : ∀ p ∈ news, p.1 ≠ 66) :
    VT [(c, oc), (66, tabObj #[rawInt 36, rawInt 18, .ref c])] ∧ Off [(c, oc), (66, tabObj #[rawInt 36, rawInt 18, .ref c])] news := by
  refine ⟨.made c oc vs t h1 h2 h3, fun p hp q hq => ?_⟩
  rcases List.mem_cons.mp hq with rfl | hq
  · exact bnd_ne h4 p hp
  · rw [List.mem_singleton.mp hq]; exact hn p hp
abbrev VbR (n : Nat) (news : List (Addr × Obj)) (v : Value) (ns : List (Addr × Obj)) : Prop := ∃ b tk led', v = .bytes b tk ∧ KBw.bInts b = pv n ∧ VT led' ∧ Off led' news ∧ ns = led' ++ news
theorem vb_end {n : Nat} {news big : List (Addr × Obj)} {h₀ h' : Heap} {L c : Addr} {m : Str → Option Value} {s : Shared} {Q : Value → Shared → Prop} {oc : Obj} {vs : Array Value} {t t' : Tok} {b : Array UInt8} {tk : Nat}
    (hret : ∀ v h' tk' news', VbR n news v news' → Fr h₀ L h' m → News h₀ L h' news' → Q v { s with heap := h', toks := tk' })
    (F : Fr h₀ L h' m) (N : News h₀ L h' big) (hb : KBw.bInts b = pv n) (m1 : (66, tabObj (#[] ++ #[rawInt 36, rawInt 18, .ref c])) ∈ big) (m2 : (c, oc) ∈ big) (m3 : ∀ p ∈ news, p ∈ big)
    (h1 : oc.data = .fields vs) (h2 : vs[1]? = some (.str (Str.ofString "_VarintBytes.<locals>." ++ Str.ofString "<lambda>") t)) (h3 : @LT.lt Nat _ 66 c) (h4 : @LE.le Nat _ (bnd news) c) (hn : ∀ p ∈ news, p.1 ≠ 66) : Q (.bytes b t') { s with heap := h', toks := tk } := by
  have g := VT.grown (news := news) h1 h2 h3 h4 hn
  refine hret _ _ _ _ ⟨b, t', _, rfl, hb, g.1, g.2, rfl⟩ F (cb_drop N ?_)
  intro p hp
  simp only [List.cons_append, List.nil_append, List.mem_cons] at hp
  rcases hp with rfl | rfl | hp
  · exact m2
  · exact m1
  · exact m3 p hp
theorem vb_end2 {n : Nat} {news big : List (Addr × Obj)} {h₀ h' : Heap} {L c : Addr} {m : Str → Option Value} {s : Shared} {Q : Value → Shared → Prop} {oc : Obj} {vs : Array Value} {t t' : Tok} {b : Array UInt8} {tk : Nat}
    (hret : ∀ v h' tk' news', VbR n news v news' → Fr h₀ L h' m → News h₀ L h' news' → Q v { s with heap := h', toks := tk' })
    (F : Fr h₀ L h' m) (N : News h₀ L h' big) (hb : KBw.bInts b = pv n) (m1 : (66, tabObj #[rawInt 36, rawInt 18, .ref c]) ∈ big) (m2 : (c, oc) ∈ big) (m3 : ∀ p ∈ news, p ∈ big)
    (h1 : oc.data = .fields vs) (h2 : vs[1]? = some (.str (Str.ofString "_VarintBytes.<locals>." ++ Str.ofString "<lambda>") t)) (h3 : @LT.lt Nat _ 66 c) (ho : Off [(c, oc), (66, tabObj #[rawInt 36, rawInt 18, .ref c])] news) : Q (.bytes b t') { s with heap := h', toks := tk } := by
  refine hret _ _ _ _ ⟨b, t', _, rfl, hb, .made c oc vs t h1 h2 h3, ho, rfl⟩ F (cb_drop N ?_)
  intro p hp
  simp only [List.cons_append, List.nil_append, List.mem_cons] at hp
  rcases hp with rfl | rfl | hp
  · exact m2
  · exact m1
  · exact m3 p hp
end
local macro_rules | `(tactic| k_lt $h:ident) => `(tactic| (replace $h := allLt_of $h; (simp only [AllLt, and_true] at $h:ident); (try simp only [allLt_bnd] at $h:ident)))
local macro_rules | `(tactic| k_all) => `(tactic| first | assumption | exact bnd_ne (by omega))
local macro_rules | `(tactic| k_room) => `(tactic| ktr_room)
local macro_rules | `(tactic| k_units) => `(tactic| ktr_units)
local macro_rules | `(tactic| walk_at "vq enterC") => `(tactic| (refine' code_defC ?k1 ?k2 ?k3 ?k4 ?k5 ?kA ?kF ?kK ?k6 ?k7 ?k8 ?k9 ?kB ?kD ?_ ?c2 ?c3 ?c4; (case kA => exact rfl); (case kF => exact rfl); (case kK => assumption); (case k1 => k_asm); (case k2 => k_asm); (case k3 => k_asm); (case k4 => k_asm); (case k5 => k_asm); (case k6 => k_is); (case k7 => k_is); (case k8 => ktr_room); (case k9 => exact BindsTo.of_eq rfl); (case kB => exact rfl); (case kD => decide +kernel); (case c2 => exact rfl); (case c3 => exact rfl); (case c4 => exact rfl); k_whole; intro g' L' h' tk' cells' FG' F' N' Y' B' X' T' l1; (try k_lt l1); k_cells Y'; (try simp only [List.cons_append, List.nil_append] at N'); (try dsimp only); (try k_lift B'); (try k_fold)))
local macro_rules | `(tactic| walk_at "exec While Name cons nil") => `(tactic| refine Stop.on ?_)
local macro_rules | `(tactic| walk_at "call builtin:list.append") => `(tactic| (k_here; (with_reducible show wpAny _ _ (call (Value.builtin _) [Value.ref _, _]) _ _ _); k_dflt (refine' append_K ?k1 ?k2 ?k3 ?_ ?z; (case k1 => k_asm); (case k2 => k_asm); (case k3 => k_upd); (case z => (simp only [List.size_toArray, List.length_map]; rw [sizeLine_eq]; omega)); k_whole); intro h' F' N'; (try k_sweep)))
local macro_rules | `(tactic| walk_at "binaryOp BitAnd int int") => `(tactic| (k_here; (with_reducible refine and127 ?_)))
local macro_rules | `(tactic| walk_at "binaryOp BitOr int int") => `(tactic| (k_here; (with_reducible refine or128_K (by omega) ?_)))
local macro_rules | `(tactic| walk_at "inplaceOp RShift int int") => `(tactic| (k_here; (with_reducible refine rsh7 ?_)))
local macro_rules | `(tactic| walk_at "call type:bytes") => `(tactic| (k_here; (with_reducible show wpAny _ _ (call (Value.type "bytes") [Value.ref _]) _ _ _); k_dflt (refine' bytes1 ?F ?N ?m ?a ?b ?h ?_; (case F => k_asm); (case N => k_asm); (case m => k_mem); (case a => omega); (case b => omega); (case h => rfl); k_whole); intro b' t' k' h' hb' F' N'; (try k_sweep)))
local macro_rules | `(tactic| walk_at "getMethod bytes") => `(tactic| (k_here; (with_reducible refine Jn.method ?_)))
local macro_rules | `(tactic| walk_at "call builtin:bytes.join") => `(tactic| (k_here; (with_reducible show wpAny _ _ (call (Value.builtin "bytes.join") [Value.bytes _ _, Value.ref _]) _ _ _); refine Stop.on ?_))
local macro_rules | `(tactic| walk_at "vq tail") => `(tactic| (intro p hp; (repeat (first | exact hp | refine List.mem_cons_of_mem _ ?_))))
local macro_rules | `(tactic| walk_at "vq enter") => `(tactic| (refine' code_def ?k1 ?k2 ?k3 ?k4 ?k5 ?kA ?kF ?kK ?k6 ?k7 ?k8 ?k9 ?kB ?_ ?c2 ?c3 ?c4 ?c5; (case kA => exact rfl); (case kF => exact rfl); (case kK => assumption); (case k1 => k_asm); (case k2 => k_asm); (case k3 => k_asm); (case k4 => k_asm); (case k5 => k_asm); (case k6 => k_is); (case k7 => k_is); (case k8 => ktr_room); (case k9 => first | exact BindsTo.of_eq rfl | exact binds_K (by k_in) rfl (by k_is) rfl rfl rfl | fail "vq enter: no rule for these arguments"); (case c5 => decide); (case kB => exact locs rfl); (case c2 => exact rfl); (case c3 => exact rfl); (case c4 => exact rfl); k_whole; intro g' L' h' FG' F' N' B' X' T'; (try dsimp only); (try k_lift B'); (try k_fold)))
section
section
variable {prog : Program} {w : World} {A : Around} {E : Value → Shared → Prop} {h : Heap} {g : Array GenState} {d : Drawn} {t : Nat} {os : OsState} {n : Int} {u : Tok}
theorem class_by_int2 {tk : Tok} {Q : Value → Shared → Prop} (hq : Q (.type "int") ⟨h, g, d, t, os⟩) : wpAny (model prog w) A (getAttrBy (.int n u) (.str (PySem.Str.ofString "__class__") tk) true true) Q E ⟨h, g, d, t, os⟩ := by
  have hT : (⟨h, g, d, t, os⟩ : Shared).TypeIs (.int n u) "int" := rfl
  have f2 := F.slot_int_getattribute.lookup
  have f3 := F.slot_int_getattribute.bind (.int n u)
  repeat (any_goals (first | assumption | wp_step))
  refine class_call_int ?_
  repeat (any_goals (first | assumption | wp_step))
theorem class_get_int {Q : Value → Shared → Prop} (hq : Q (.type "int") ⟨h, g, d, t + 1, os⟩) : wpAny (model prog w) A (getAttr (.int n u) (PySem.Str.ofString "__class__") true) Q E ⟨h, g, d, t, os⟩ := by
  unfold getAttr
  repeat (any_goals (first | assumption | with_reducible apply class_by_int2 | wp_step))
end
end
local macro_rules | `(tactic| walk_at "getAttr int") => `(tactic| (k_here; k_dflt (refine class_get_int ?_)))
local macro_rules | `(tactic| walk_at "call builtin:hasattr") => `(tactic| (k_here; k_dflt (refine' Ha.hasattr_K ?F ?N ?h ?_; (case F => k_asm); (case N => k_asm); (case h => rfl)); intro h' tk' F' N'; (try k_sweep)))
section
/-- the least big-endian octets -/
def be (n : Nat) : List Int := if h : n = 0 then [] else be (n / 256) ++ [((n % 256 : Nat) : Int)]
termination_by n
decreasing_by omega
theorem be_zero : be 0 = [] := by rw [be]; rfl
theorem be_pos {n : Nat} (h : n ≠ 0) : be n = be (n / 256) ++ [((n % 256 : Nat) : Int)] := by rw [be, dif_neg h]
theorem little_be : ∀ (k n : Nat), n < 256 ^ k → (k = 0 ∨ 256 ^ (k - 1) ≤ n) → (KTBy.little k (n : Int)).reverse = be n
  | 0, n, h, _ => by
    have : n = 0 := by simpa using h
    subst this
    rw [be_zero]; rfl
  | k + 1, n, h, h2 => by
    have h2' : 256 ^ k ≤ n := by simpa using h2
    have hp : 0 < 256 ^ k := Nat.pow_pos (by decide)
    have hn : n ≠ 0 := by omega
    have e1 : (n : Int) / 256 = ((n / 256 : Nat) : Int) := by omega
    have e2 : (n : Int) % 256 = ((n % 256 : Nat) : Int) := by omega
    have ih := little_be k (n / 256) (by rw [Nat.div_lt_iff_lt_mul (by decide)]; rw [Nat.pow_succ] at h; exact h) (by
      cases k with
      | zero => exact .inl rfl
      | succ k =>
        refine .inr ?_
        show 256 ^ k ≤ n / 256
        rw [Nat.le_div_iff_mul_le (by decide)]
        rw [Nat.pow_succ] at h2'; exact h2')
    show ((n : Int) % 256 :: KTBy.little k ((n : Int) / 256)).reverse = be n
    rw [List.reverse_cons, e1, e2, ih, be_pos hn]
theorem be_len (k n : Nat) (h : n < 256 ^ k) (h2 : k = 0 ∨ 256 ^ (k - 1) ≤ n) : (be n).length = k := by
  rw [← little_be k n h h2, List.length_reverse, KTBy.little_length]
theorem bits_lt {n : Nat} : n < 2 ^ Builtin.Int.intBits (n : Int) := by
  have := (intBits_le_iff (m := Builtin.Int.intBits (n : Int)) (x := (n : Int))).mp (Nat.le_refl _)
  simpa using this
theorem bits_le {n : Nat} (h : n ≠ 0) : 2 ^ (Builtin.Int.intBits (n : Int) - 1) ≤ n := by
  have : ¬ (Builtin.Int.intBits (n : Int) ≤ Builtin.Int.intBits (n : Int) - 1) ∨ Builtin.Int.intBits (n : Int) = 0 := by omega
  rcases this with h1 | h1
  · rw [intBits_le_iff] at h1
    have : (n : Int).natAbs = n := by omega
    omega
  · have := bits_lt (n := n)
    rw [h1] at this
    simp at this
    exact absurd this h
theorem bits_pos {n : Nat} (h : n ≠ 0) : 0 < Builtin.Int.intBits (n : Int) := by
  have := bits_lt (n := n)
  cases q : Builtin.Int.intBits (n : Int) with
  | zero => rw [q] at this; simp at this; exact absurd this h
  | succ k => omega
theorem bits_64 {n : Nat} (h : n < 2 ^ 64) : Builtin.Int.intBits (n : Int) ≤ 64 := by
  rw [intBits_le_iff]
  have : (n : Int).natAbs = n := by omega
  rw [this]; exact h
theorem octets {n : Nat} (h : n ≠ 0) (h64 : n < 2 ^ 64) : ∃ k : Nat, (((Builtin.Int.intBits (n : Int) : Nat) : Int) + 7).fdiv 8 = (k : Int) ∧ 1 ≤ k ∧ k ≤ 8 ∧ n < 256 ^ k ∧ 256 ^ (k - 1) ≤ n := by
  have h1 := bits_lt (n := n)
  have h2 := bits_le h
  have h3 := bits_pos h
  have h4 := bits_64 h64
  generalize Builtin.Int.intBits (n : Int) = b at h1 h2 h3 h4
  refine ⟨(b + 7) / 8, ?_, by omega, by omega, ?_, ?_⟩
  · rw [Int.fdiv_eq_ediv_of_nonneg _ (by decide)]; omega
  · have e : 256 ^ ((b + 7) / 8) = 2 ^ (8 * ((b + 7) / 8)) := by rw [Nat.pow_mul]
    rw [e]
    exact Nat.lt_of_lt_of_le h1 (Nat.pow_le_pow_right (by decide) (by omega))
  · have e : 256 ^ ((b + 7) / 8 - 1) = 2 ^ (8 * ((b + 7) / 8 - 1)) := by rw [Nat.pow_mul]
    rw [e]
    exact Nat.le_trans (Nat.pow_le_pow_right (by decide) (by omega)) h2
theorem fdiv_absurd {n : Nat} (h : ((n : Nat) : Int) ≠ 0) (e : (((Builtin.Int.intBits (n : Int) : Nat) : Int) + 7).fdiv 8 = 0) : False := by
  have h3 := bits_pos (n := n) (by omega)
  rw [Int.fdiv_eq_ediv_of_nonneg _ (by decide)] at e
  omega
theorem be_small {n : Nat} (h : n ≠ 0) (h2 : n < 256) : be n = [(n : Int)] := by
  rw [be_pos h, Nat.div_eq_of_lt h2, be_zero, Nat.mod_eq_of_lt h2]; rfl
theorem be_len_bounds {n : Nat} (h : n ≠ 0) (h64 : n < 2 ^ 64) : 1 ≤ (be n).length ∧ (be n).length ≤ 8 := by
  obtain ⟨k, _, h1, h2, h3, h4⟩ := octets h h64
  rw [be_len k n h3 (.inr h4)]
  exact ⟨h1, h2⟩
theorem be_len_one {n : Nat} (h : n ≠ 0) (h1 : (be n).length = 1) : n < 256 := by
  rw [be_pos h, List.length_append] at h1
  have : (be (n / 256)).length = 0 := by simpa using h1
  by_cases q : n / 256 = 0
  · omega
  · rw [be_pos q] at this; simp at this
/-- RLP's octets of a number -/
def rlp (n : Nat) : List Int := if n = 0 then [128] else if n < 128 then [(n : Int)] else ((128 + (be n).length : Nat) : Int) :: be n
section
variable {prog : Program} {w : World} {A : Around} {E : Value → Shared → Prop} {s : Shared} {t u v : Tok}
theorem to_bytes_be {n : Nat} {Q : Value → Shared → Prop} (h0 : ((n : Nat) : Int) ≠ 0) (h64 : n < 2 ^ 64) (h : ∀ (b : Array UInt8) t' k', KBw.bInts b = be n → 1 ≤ (be n).length → (be n).length ≤ 8 → Q (.bytes b t') { s with toks := k' }) :
    wpAny (model prog w) A (call (.builtin "int.to_bytes") [.int (n : Int) t, .int ((((Builtin.Int.intBits (n : Int) : Nat) : Int) + 7).fdiv 8) u, .str (PySem.Str.ofString "big") v]) Q E s := by
  obtain ⟨k, e, h1, h2, h3, h4⟩ := octets (by omega) h64
  rw [e]
  refine KTBy.to_big (k := k) (B := ((256 ^ k : Nat) : Int)) h2 (by rw [Int.natCast_pow]; rfl) (by omega) (by omega) fun b t' k' hb _ => h b t' k' ?_ (be_len_bounds (by omega) h64).1 (be_len_bounds (by omega) h64).2
  rw [hb, little_be k n h3 (.inr h4)]
end
end
local macro_rules | `(tactic| walk_at "call builtin:int.to_bytes") => `(tactic| (k_here; first | (exfalso; exact fdiv_absurd (by assumption) (by assumption)) | (refine' to_bytes_be ?h0 ?h1 ?_; (case h0 => assumption); (case h1 => assumption); intro b' t' k' hb' hbLo hbHi)))
section
def okAll (l : List Value) : Bool := l.length == 256 && ((List.range 256).all fun i => match l[i]? with
  | some (.bytes b _) => b.toList == [UInt8.ofNat i]
  | _ => false)
theorem okAll_get {l : List Value} (h : okAll l = true) {j : Nat} (hj : j < 256) : l.length = 256 ∧ ∃ b t, l[j]? = some (.bytes b t) ∧ KBw.bInts b = [(j : Int)] := by
  unfold okAll at h
  obtain ⟨h1, h2⟩ := Bool.and_eq_true_iff.mp h
  refine ⟨by simpa using h1, ?_⟩
  have h3 := List.all_eq_true.mp h2 j (List.mem_range.mpr hj)
  split at h3
  · rename_i b t e
    refine ⟨b, t, e, ?_⟩
    have h4 : b.toList = [UInt8.ofNat j] := by simpa using h3
    have : KBw.bInts b = b.toList.map fun c => ((c.toNat : Nat) : Int) := rfl
    rw [this, h4]
    simp only [List.map_cons, List.map_nil, UInt8.toNat_ofNat']
    rw [Nat.mod_eq_of_lt (by omega)]
  · cases h3
section
variable {prog : Program} {w : World} {A : Around} {E : Value → Shared → Prop} {s : Shared} {K : Frag} {L a : Addr} {h₀ : Heap} {m : Str → Option Value} {n : Nat}
theorem allb {value slice : PySem.Expr} {l : List Value} {dd : Option Addr} {sl : Array (Option Value)} {k : Int} {u : Tok} {j : Nat} {Q : Value → Shared → Prop} (F : Fr h₀ L s.heap m) (X₀ : K.In h₀) (hl : K.lookup a = some ⟨.type "tuple", dd, .seq l.toArray n, sl⟩)
    (ok : okAll l = true) (e : k = (j : Int)) (hj : j < 256) (h : ∀ b t, KBw.bInts b = [(j : Int)] → Q (.bytes b t) s)
    (hs : subscripted slice false (.ref a) (.int k u) = operate [.ref a, .int k u] (getItem (.ref a) (.int k u)) := by with_unfolding_all rfl) :
    wpAny (model prog w) A (subscriptTail value slice (.ref a) (.int k u)) Q E s := by
  obtain ⟨h1, b, t, h2, h3⟩ := okAll_get ok hj
  subst e
  refine topTup_K F X₀ hl (by omega) (by omega) (j := j) ?_ h2 (h b t h3) hs
  unfold seqIndex?
  rw [h1]
  have c1 : ¬ ((j : Int) < 0) := by omega
  rw [if_neg c1]
  have c2 : (decide ((0 : Int) ≤ j) && decide ((j : Int) < ((256 : Nat) : Int))) = true := by
    rw [Bool.and_eq_true, decide_eq_true_eq, decide_eq_true_eq]; omega
  rw [if_pos c2, Int.toNat_natCast]
theorem allb128 {value slice : PySem.Expr} {l : List Value} {dd : Option Addr} {sl : Array (Option Value)} {u : Tok} {x : Nat} {Q : Value → Shared → Prop} (F : Fr h₀ L s.heap m) (X₀ : K.In h₀) (hl : K.lookup a = some ⟨.type "tuple", dd, .seq l.toArray n, sl⟩)
    (ok : okAll l = true) (hj : x < 128) (h : ∀ b t, KBw.bInts b = [((128 + x : Nat) : Int)] → Q (.bytes b t) s)
    (hs : subscripted slice false (.ref a) (.int (128 + (x : Int)) u) = operate [.ref a, .int (128 + (x : Int)) u] (getItem (.ref a) (.int (128 + (x : Int)) u)) := by with_unfolding_all rfl) :
    wpAny (model prog w) A (subscriptTail value slice (.ref a) (.int (128 + (x : Int)) u)) Q E s :=
  allb F X₀ hl ok (j := 128 + x) (by omega) (by omega) h hs
end
theorem rlp_pos {n : Nat} {c : Array UInt8} (h0 : ((n : Nat) : Int) ≠ 0) (h64 : n < 2 ^ 64) (hc : KBw.bInts c = [((128 + (be n).length : Nat) : Int)] ++ be n) (h : ¬ (((be n).length : Int) = 1) ∨ ¬ ((be n).getD (Int.toNat 0) 0 < 128)) : KBw.bInts c = rlp n := by
  have hn : n ≠ 0 := by omega
  have hb : ¬ n < 128 := by
    intro hl
    have e := be_small hn (by omega)
    rcases h with h | h
    · rw [e] at h; simp at h
    · rw [e] at h; simp at h; omega
  rw [hc, rlp, if_neg hn, if_neg hb]
  rfl
theorem rlp_one {n : Nat} {b : Array UInt8} (h0 : ((n : Nat) : Int) ≠ 0) (hb : KBw.bInts b = be n) (h1 : ((be n).length : Int) = 1) (h2 : (be n).getD (Int.toNat 0) 0 < 128) : KBw.bInts b = rlp n := by
  have hn : n ≠ 0 := by omega
  have h256 := be_len_one hn (by omega)
  have e := be_small hn h256
  rw [e] at h2
  simp at h2
  rw [hb, e, rlp, if_neg hn, if_pos (by omega)]
end
local macro_rules | `(tactic| walk_at "subscriptTail Name BinOp ref int") => `(tactic| (k_here; (with_reducible show wpAny _ _ (subscriptTail _ _ (Value.ref _) (Value.int _ _)) _ _ _); k_dflt (refine' allb128 ?F ?X ?l ?ok ?hj ?_; (case F => k_asm); (case X => k_asm); (case l => k_is); (case ok => decide +kernel); (case hj => omega)); intro b' t' hb'))
section
theorem vsize_eq {n : Nat} (h64 : n < 2 ^ 64) : (if ((n : Nat) : Int) ≤ 127 then (1 : Int) else if ((n : Nat) : Int) ≤ 16383 then 2 else if ((n : Nat) : Int) ≤ 2097151 then 3 else if ((n : Nat) : Int) ≤ 268435455 then 4 else if ((n : Nat) : Int) ≤ 34359738367 then 5 else if ((n : Nat) : Int) ≤ 4398046511103 then 6 else if ((n : Nat) : Int) ≤ 562949953421311 then 7 else if ((n : Nat) : Int) ≤ 72057594037927935 then 8 else if ((n : Nat) : Int) ≤ 9223372036854775807 then 9 else 10) = ((pv n).length : Int) := by
  have s : ∀ n : Nat, 128 ≤ n → (pv n).length = (pv (n / 128)).length + 1 := fun n h => by
    rw [pv, dif_neg (by omega)]; rfl
  have z : ∀ n : Nat, n < 128 → (pv n).length = 1 := fun n h => by
    rw [pv, dif_pos h]; rfl
  repeat' split
  · rw [z n (by omega)]; rfl
  · rw [s n (by omega), z _ (by omega)]; rfl
  · rw [s n (by omega), s _ (by omega), z _ (by omega)]; rfl
  · rw [s n (by omega), s _ (by omega), s _ (by omega), z _ (by omega)]; rfl
  · rw [s n (by omega), s _ (by omega), s _ (by omega), s _ (by omega), z _ (by omega)]; rfl
  · rw [s n (by omega), s _ (by omega), s _ (by omega), s _ (by omega), s _ (by omega), z _ (by omega)]; rfl
  · rw [s n (by omega), s _ (by omega), s _ (by omega), s _ (by omega), s _ (by omega), s _ (by omega), z _ (by omega)]; rfl
  · rw [s n (by omega), s _ (by omega), s _ (by omega), s _ (by omega), s _ (by omega), s _ (by omega), s _ (by omega), z _ (by omega)]; rfl
  · rw [s n (by omega), s _ (by omega), s _ (by omega), s _ (by omega), s _ (by omega), s _ (by omega), s _ (by omega), s _ (by omega), z _ (by omega)]; rfl
  · rw [s n (by omega), s _ (by omega), s _ (by omega), s _ (by omega), s _ (by omega), s _ (by omega), s _ (by omega), s _ (by omega), s _ (by omega), z _ (by omega)]; rfl
theorem vs_end {k : Int} {n : Nat} {news : List (Addr × Obj)} {h₀ h' : Heap} {L : Addr} {m : Str → Option Value} {s : Shared} {Q : Value → Shared → Prop} {t : Tok} {tk : Nat}
    (hret : ∀ v h' tk' news', (∃ t', v = .int ((pv n).length : Int) t' ∧ news' = news) → Fr h₀ L h' m → News h₀ L h' news' → Q v { s with heap := h', toks := tk' })
    (e : k = ((pv n).length : Int)) (F : Fr h₀ L h' m) (N : News h₀ L h' news) : Q (.int k t) { s with heap := h', toks := tk } := by
  subst e
  exact hret _ _ _ _ ⟨t, rfl, rfl⟩ F N
set_option maxRecDepth 100000 in
set_option maxHeartbeats 8000000 in
theorem vsize (w : World) (x : Int) (n : Nat) (e : x = n) (h64 : n < 2 ^ 64) (t : Tok) (news : List (Addr × Obj)) :
    Ct w 56 [.int x t] news (fun v ns => ∃ t', v = .int ((pv n).length : Int) t' ∧ ns = news) := by
  subst e
  unfold Ct
  run_tac afresh
  k_fill
  intro loose mean mg mb dp un gd cn cs a ccd cl outer A₀ base h₀ L m s Q E B F X N T C1 C2 hk hd hu hret
  refine wpAny_call ?_
  k_dflt (walk_at "vq enter")
  have hv := vsize_eq h64
  k_steps
  all_goals (
    rename News h₀ L _ _ => N7
    refine vs_end hret ?_ (by assumption) N7
    rw [← hv]
    (repeat' split) <;> omega)
end
section
set_option maxRecDepth 100000 in
set_option maxHeartbeats 8000000 in
theorem vb (w : World) (x : Int) (n : Nat) (e : x = n) (h64 : n < 2 ^ 64) (t : Tok) (led news : List (Addr × Obj)) (hv : VT led) (ho : Off led news) :
    Ct w 71 [.int x t] (led ++ news) (VbR n news) := by
  subst e
  have hn : ∀ p ∈ news, p.1 ≠ 66 := by
    cases hv with
    | fresh => exact fun p hp => ho p hp _ (.head _)
    | made => exact fun p hp => ho p hp _ (.tail _ (.head _))
  unfold Ct
  run_tac afresh
  k_fill
  intro loose mean mg mb dp un gd cn cs a ccd cl outer A₀ base h₀ L m s Q E B F X N T C1 C2 hk hd hu hret
  cases hv
  all_goals (
    simp only [List.cons_append, List.nil_append] at N
    refine wpAny_call ?_
    k_dflt (walk_at "vq enterC")
    k_steps
    refine Stop.off ?_
    rename Fr _ _ _ _ => F9
    rename News _ _ _ _ => N9
    first | refine enc_loop [_] n F9 N9 rfl rfl rfl rfl h64 ?_ | refine enc_loop [_, _] n F9 N9 rfl rfl rfl rfl h64 ?_
    intro x u h9 tk9 hP9 hL9 F8 N8
    simp only [encLed, List.cons_append, List.nil_append] at N8
    clear F9 N9
    (try k_fold)
    k_steps
    · refine' ksw_end ⟨x.v / 128, x.pcs ++ [(_, _)], x.k + 1, _, _⟩ (by assumption) (by assumption) (by intro p hp; rw [encLed, bval_snoc] at hp; exact List.mem_cons_of_mem _ hp) trivial ?k1 ?k2 ?k3 ?k4
      (case k1 =>
        intro p hp
        simp only [encPs, List.mem_cons, List.not_mem_nil, or_false] at hp
        rcases hp with rfl | rfl <;> rfl)
      (case k2 =>
        intro z h2 _
        have a1 := h2 _ (.head _)
        have a2 := h2 _ (.tail _ (.head _))
        simp only [encPs] at a1 a2
        simp [kstB, a1, a2])
      (case k3 => exact enc_step hP9 (by assumption) (by assumption))
      (case k4 => (show x.v / 128 < x.v); omega)
    refine Stop.off ?_
    rename News _ _ _ _ => N9
    refine' join_snoc N9 ?m ?_ ?_
    (case m => k_mem)
    · rw [enc_last hP9 (by assumption) (by assumption)]
      have := pv_len 9 n (Nat.lt_of_lt_of_le h64 (by decide))
      omega
    rw [enc_last hP9 (by assumption) (by assumption)]
    intro b t' k' hb
    k_steps)
  · rename News h₀ L _ _ => N7
    refine' vb_end hret (by assumption) N7 (by assumption) ?m1 ?m2 ?m3 (by assumption) (by assumption) ?h3 ?h4 hn
    (case m1 => k_mem)
    (case m2 => k_mem)
    (case m3 => walk_at "vq tail")
    (case h3 => omega)
    (case h4 => omega)
  · rename News h₀ L _ _ => N7
    refine' vb_end2 hret (by assumption) N7 (by assumption) ?m1 ?m2 ?m3 (by assumption) (by assumption) ?h3 ho
    (case m1 => k_mem)
    (case m2 => k_mem)
    (case m3 => walk_at "vq tail")
    (case h3 => assumption)
end
section
abbrev EncR (n : Nat) (news : List (Addr × Obj)) (v : Value) (ns : List (Addr × Obj)) : Prop := ∃ b tk, v = .bytes b tk ∧ KBw.bInts b = rlp n ∧ ns = news
theorem rlp_zero {n : Nat} (h : ((n : Nat) : Int) = 0) : KBw.bInts #[128] = rlp n := by
  have : n = 0 := by omega
  subst this; rfl
set_option maxRecDepth 100000 in
set_option maxHeartbeats 8000000 in
theorem enc (w : World) (x : Int) (n : Nat) (e : x = n) (h64 : n < 2 ^ 64) (t : Tok) (news : List (Addr × Obj)) :
    Ct w 497 [.int x t] news (EncR n news) := by
  subst e
  unfold Ct
  run_tac afresh
  k_fill
  intro loose mean mg mb dp un gd cn cs a ccd cl outer A₀ base h₀ L m s Q E B F X N T C1 C2 hk hd hu hret
  refine wpAny_call ?_
  k_dflt (walk_at "vq enter")
  k_steps
  all_goals (
    (rename News h₀ L _ _ => N7)
    refine hret _ _ _ _ ⟨_, _, rfl, ?_, rfl⟩ (by assumption) (cb_drop N7 (by walk_at "vq tail"))
    first
      | exact rlp_zero (by assumption)
      | exact rlp_one (by assumption) (by assumption) (by assumption) (by assumption)
      | exact rlp_pos (by assumption) h64 (by assumption) (.inl (by assumption))
      | exact rlp_pos (by assumption) h64 (by assumption) (.inr (by assumption)))
end
section
structure DecSt where
  i : Nat
  r : Nat
  v : Nat
  tr : Tok
  ts : Tok
  tp : Tok
def decP (b : Array UInt8) (p n : Nat) (post : List Int) (x : DecSt) : Prop :=
  n = x.r + x.v * 2 ^ (7 * x.i) ∧ x.r < 2 ^ (7 * x.i) ∧ x.i + (pv x.v).length = (pv n).length ∧ ∃ xs, KBw.bInts b = xs ++ pv x.v ++ post ∧ xs.length = p + x.i
theorem decP_read {b : Array UInt8} {p n : Nat} {post : List Int} {x : DecSt} (h : decP b p n post x) (h64 : n < 2 ^ 64) :
    ∃ (xs : List Int) (c : Nat) (ys : List Int), KBw.bInts b = xs ++ (c : Int) :: ys ∧ xs.length = p + x.i ∧ c < 256 ∧ c % 128 = x.v % 128 ∧ (x.v < 128 ↔ c < 128) ∧ (x.v < 128 → x.r + c % 128 * 2 ^ (7 * x.i) = n ∧ p + x.i + 1 = p + (pv n).length) ∧ x.i ≤ 9 ∧ (c < 128 ∨ x.i ≤ 8) ∧
      (¬ x.v < 128 → ∀ tr ts tp, decP b p n post ⟨x.i + 1, x.r + c % 128 * 2 ^ (7 * x.i), x.v / 128, tr, ts, tp⟩) := by
  obtain ⟨h1, h2, h3, xs, h4, h5⟩ := h
  have hi9 : x.i ≤ 9 := by
    have := pv_pos x.v
    have := pv_len 9 n (Nat.lt_of_lt_of_le h64 (by decide))
    omega
  by_cases hv : x.v < 128
  · refine ⟨xs, x.v, post, ?_, h5, by omega, rfl, Iff.rfl, fun _ => ⟨?_, ?_⟩, hi9, .inl hv, fun h => absurd hv h⟩
    · rw [h4, pv_low hv, List.append_assoc]; rfl
    · rw [Nat.mod_eq_of_lt hv]; exact h1.symm
    · rw [pv_low hv] at h3; simp only [List.length_cons, List.length_nil] at h3; omega
  · refine ⟨xs, 128 + x.v % 128, pv (x.v / 128) ++ post, ?_, h5, by omega, by omega, by omega, fun h => absurd h hv, hi9, .inr ?_, fun _ tr ts tp => ⟨?_, ?_, ?_, xs ++ [((128 + x.v % 128 : Nat) : Int)], ?_, ?_⟩⟩
    · rw [h4, pv_step (by omega), List.append_assoc]; rfl
    · rcases Nat.lt_or_ge x.i 9 with hi | hi
      · omega
      · exfalso
        have a1 : 2 ^ 63 ≤ 2 ^ (7 * x.i) := Nat.pow_le_pow_right (by decide) (by omega)
        have a2 : 128 * 2 ^ 63 ≤ x.v * 2 ^ (7 * x.i) := Nat.mul_le_mul (by omega) a1
        omega
    · show n = x.r + (128 + x.v % 128) % 128 * 2 ^ (7 * x.i) + x.v / 128 * 2 ^ (7 * (x.i + 1))
      have e1 : (128 + x.v % 128) % 128 = x.v % 128 := by omega
      have e2 : 2 ^ (7 * (x.i + 1)) = 128 * 2 ^ (7 * x.i) := by rw [Nat.mul_add, Nat.pow_add, Nat.mul_comm]
      have e3 : x.v * 2 ^ (7 * x.i) = (128 * (x.v / 128) + x.v % 128) * 2 ^ (7 * x.i) := by rw [Nat.div_add_mod]
      rw [e1, e2, h1, e3, Nat.add_mul]
      have e4 : x.v / 128 * (128 * 2 ^ (7 * x.i)) = 128 * (x.v / 128) * 2 ^ (7 * x.i) := by
        rw [← Nat.mul_assoc, Nat.mul_comm (x.v / 128) 128]
      omega
    · show x.r + (128 + x.v % 128) % 128 * 2 ^ (7 * x.i) < 2 ^ (7 * (x.i + 1))
      have e2 : 2 ^ (7 * (x.i + 1)) = 128 * 2 ^ (7 * x.i) := by rw [Nat.mul_add, Nat.pow_add, Nat.mul_comm]
      have e5 : (128 + x.v % 128) % 128 * 2 ^ (7 * x.i) ≤ 127 * 2 ^ (7 * x.i) := Nat.mul_le_mul_right _ (by omega)
      omega
    · show x.i + 1 + (pv (x.v / 128)).length = (pv n).length
      rw [pv_step (by omega)] at h3; simp only [List.length_cons] at h3; omega
    · show _ = _ ++ pv (x.v / 128) ++ post
      rw [h4, pv_step (by omega)]; simp
    · show (xs ++ _).length = p + (x.i + 1)
      simp [h5]; omega
section
variable {prog : Program} {w : World} {A : Around} {E : Value → Shared → Prop} {s : Shared} {t u : Tok} {Q : Value → Shared → Prop}
theorem byteAt {value slice : PySem.Expr} {b : Array UInt8} {i : Int} {xs ys : List Int} {c : Nat} (hk : KBw.bInts b = xs ++ (c : Int) :: ys) (hz : (KBw.bInts b).length ≤ 16777216) (e : i = (xs.length : Nat))
    (h : ∀ t' k, Q (.int (c : Int) t') { s with toks := k })
    (hs : subscripted slice false (.bytes b t) (.int i u) = operate [.bytes b t, .int i u] (getItem (.bytes b t) (.int i u)) := by with_unfolding_all rfl)
    (ht : ∀ r, letTemporaryGo value (.bytes b t) r = pure () := by intro _; with_unfolding_all rfl) : wpAny (model prog w) A (subscriptTail value slice (.bytes b t) (.int i u)) Q E s := by
  refine KBw.item_K rfl (by omega) (by omega) (by rw [hk, List.length_append, List.length_cons]; omega) ?_ hs ht
  intro t' k _ _
  have e2 : (KBw.bInts b).getD i.toNat 0 = (c : Int) := by
    rw [hk, e, Int.toNat_natCast, List.getD_eq_getElem?_getD, List.getElem?_append_right (Nat.le_refl _)]
    simp
  rw [e2]
  exact h t' k
theorem lsh_K {c k : Nat} (h1 : c < 128) (h2 : k ≤ 64) (h : Q (.int ((c * 2 ^ k : Nat) : Int) s.toks) { s with toks := s.toks + 1 }) : wpAny (model prog w) A (binaryOp .LShift (.int (c : Int) t) (.int (k : Int) u)) Q E s := by
  refine lshift_int_small (by omega) (by omega) (by omega) ?_
  rw [Int.toNat_natCast]
  have e : (c : Int) * 2 ^ k = ((c * 2 ^ k : Nat) : Int) := by rw [Int.natCast_mul, Int.natCast_pow]; rfl
  rw [e]; exact h
theorem bitOr_nat (a b : Nat) : Builtin.bitOr (a : Int) (b : Int) = ((a ||| b : Nat) : Int) := by
  unfold Builtin.bitOr Builtin.bitAnd Builtin.bitNot
  have h1 : decide ((0 : Int) ≤ -(a : Int) - 1) = false := decide_eq_false (by omega)
  have h2 : decide ((0 : Int) ≤ -(b : Int) - 1) = false := decide_eq_false (by omega)
  rw [h1, h2]
  dsimp only
  have e1 : (-(-(a : Int) - 1) - 1).toNat = a := by omega
  have e2 : (-(-(b : Int) - 1) - 1).toNat = b := by omega
  rw [e1, e2]
  omega
theorem bitAnd_nat (a b : Nat) : Builtin.bitAnd (a : Int) (b : Int) = ((a &&& b : Nat) : Int) := by
  unfold Builtin.bitAnd
  have h1 : decide ((0 : Int) ≤ (a : Int)) = true := decide_eq_true (by omega)
  have h2 : decide ((0 : Int) ≤ (b : Int)) = true := decide_eq_true (by omega)
  rw [h1, h2]
  dsimp only
  rw [Int.toNat_natCast, Int.toNat_natCast]
theorem ior_K {r c k : Nat} (h1 : r < 2 ^ k) (h : Q (.int ((r + c * 2 ^ k : Nat) : Int) s.toks) { s with toks := s.toks + 1 }) : wpAny (model prog w) A (inplaceOp .BitOr (.int (r : Int) t) (.int ((c * 2 ^ k : Nat) : Int) u)) Q E s := by
  refine ior_int ?_
  rw [bitOr_nat]
  have e : r ||| c * 2 ^ k = r + c * 2 ^ k := by
    have := Nat.two_pow_add_eq_or_of_lt h1 c
    rw [Nat.or_comm, Nat.mul_comm c, ← this, Nat.add_comm]
  rw [e]; exact h
theorem and128 {c : Nat} (h1 : c < 256) (h : Q (.int ((c / 128 * 128 : Nat) : Int) s.toks) { s with toks := s.toks + 1 }) : wpAny (model prog w) A (binaryOp .BitAnd (.int (c : Int) t) (.int 128 u)) Q E s := by
  refine and_int ?_
  rw [show (128 : Int) = ((128 : Nat) : Int) from rfl, bitAnd_nat]
  have e : c &&& 128 = c / 128 * 128 := by
    have : ∀ c : Fin 256, c.val &&& 128 = c.val / 128 * 128 := by decide +kernel
    exact this ⟨c, h1⟩
  rw [e]; exact h
theorem mask64 {r n : Nat} (e : r = n) (h64 : n < 2 ^ 64) (h : Q (.int (n : Int) s.toks) { s with toks := s.toks + 1 }) : wpAny (model prog w) A (inplaceOp .BitAnd (.int (r : Int) t) (.int 18446744073709551615 u)) Q E s := by
  subst e
  refine iand_int ?_
  rw [show (18446744073709551615 : Int) = ((2 ^ 64 - 1 : Nat) : Int) from rfl, bitAnd_nat, Nat.and_two_pow_sub_one_eq_mod, Nat.mod_eq_of_lt h64]
  exact h
end
section
variable {prog : Program} {w : World} {A : Around} {E : Value → Shared → Prop} {Q : Flow → Shared → Prop} {s : Shared} {env : Env} {h₀ : Heap} {L : Addr}
theorem ldnX {M : Model} {A : Around} {E : Value → Shared → Prop} {s : Shared} {h₀ : Heap} {L a : Addr} {m : Str → Option Value} {cn : Str} {cs : Scope} {ccd : Value} {cl : List (Str × Addr)} {x : Str} {v : Value} {Q : Value → Shared → Prop} (F : Fr h₀ L s.heap m) (hv : m x = some v) (h : Q v s)
    (hk : cs.kind = .function := by rfl) (hl : (envX cn cs L a ccd cl).kindOf x = some .local := by rfl) :
    wpAny M A (loadName (envX cn cs L a ccd cl) x) Q E s := wpAny_loadName_local hk hl F.ns hv h
abbrev decPs (b : Array UInt8) (tb : Tok) (p : Nat) (x : DecSt) : List (Str × Value) := [(Str.ofString "result", .int (x.r : Nat) x.tr), (Str.ofString "shift", .int (7 * x.i : Nat) x.ts), (Str.ofString "pos", .int (p + x.i : Nat) x.tp), (Str.ofString "buffer", .bytes b tb)]
theorem dec_loop {test : PySem.Expr} {body : List Stmt} {pos : Pos} {m₀ : Str → Option Value} {news : List (Addr × Obj)} (n p : Nat) (b : Array UInt8) (tb : Tok) (post : List Int) {tr ts tp : Tok} (xs : List Int)
    (F : Fr h₀ L s.heap m₀) (N : News h₀ L s.heap news)
    (h1 : m₀ (Str.ofString "result") = some (.int 0 tr)) (h2 : m₀ (Str.ofString "shift") = some (.int 0 ts)) (h3 : m₀ (Str.ofString "pos") = some (.int (p : Int) tp)) (h4 : m₀ (Str.ofString "buffer") = some (.bytes b tb))
    (hb : KBw.bInts b = xs ++ pv n ++ post) (hx : xs.length = p)
    (turn : ∀ (m₀ : Str → Option Value) (x : DecSt) (u : Str → Option Value) h tk, decP b p n post x → Fr h₀ L h (kstB (fun z => if [Str.ofString "b"].contains z then u z else m₀ z) (decPs b tb p x)) → News h₀ L h news →
      wpAny (model prog w) A (isTrue test env (eval test env)) (fun b' s₂ =>
        if b' = true then wpAny (model prog w) A (execs body env) (KswPost h₀ L s (fun _ => news) (decPs b tb p) (fun _ => True) [Str.ofString "b"] m₀ (decP b p n post) (fun x => x.v) Q x) E s₂ else Q .next s₂) E { s with heap := h, toks := tk })
    (hE : PassesOwn (model prog w) A env E := by passes_own) :
    wpAny (model prog w) A (exec (.While test body [] pos) env) Q E s := by
  refine ksw_while (fun _ => news) (decPs b tb p) (fun _ => True) [Str.ofString "b"] (decP b p n post) (fun x => x.v) ⟨0, 0, n, tr, ts, tp⟩ F N trivial ?_ ⟨by simp, by simp, by simp, xs, hb, hx⟩ ?_ hE
  · intro q hq
    simp only [decPs, List.mem_cons, List.not_mem_nil, or_false] at hq
    rcases hq with rfl | rfl | rfl | rfl
    · exact h1
    · exact h2
    · exact h3
    · exact h4
  · intro x u h tk _ hP F N
    exact turn m₀ x u h tk hP F N
/-- what a last octet says -/
def Last (c : Nat) (P : Prop) : Prop := c < 128 → P
theorem mask64L {prog : Program} {w : World} {A : Around} {E : Value → Shared → Prop} {s : Shared} {t u : Tok} {Q : Value → Shared → Prop} {c r n : Nat} (l : Last c (r = n)) (hc : c < 128) (h64 : n < 2 ^ 64) (h : Q (.int (n : Int) s.toks) { s with toks := s.toks + 1 }) : wpAny (model prog w) A (inplaceOp .BitAnd (.int (r : Int) t) (.int 18446744073709551615 u)) Q E s := mask64 (l hc) h64 h
end
local macro_rules | `(tactic| walk_at "loadName") => `(tactic| (k_here; k_dflt (refine' ldnX ?F ?v ?_ ?a ?b; (case a => rfl); (case b => rfl); (case F => k_asm); (case v => rfl); k_whole)))
local macro_rules | `(tactic| walk_at "exec While Constant cons nil") => `(tactic| refine Stop.on ?_)
local macro_rules | `(tactic| walk_at "subscriptTail Name Name bytes int") => `(tactic| (k_here; k_dflt (refine' byteAt ?a ?b ?c ?_; (case a => assumption); (case b => assumption); (case c => omega)); intro tc' kc'))
local macro_rules | `(tactic| walk_at "binaryOp BitAnd int int") => `(tactic| (k_here; (with_reducible first | refine and127 ?_ | refine and128 (by assumption) ?_)))
local macro_rules | `(tactic| walk_at "binaryOp LShift int int") => `(tactic| (k_here; (with_reducible refine lsh_K (by omega) (by omega) ?_)))
local macro_rules | `(tactic| walk_at "inplaceOp BitAnd int int") => `(tactic| (k_here; (with_reducible refine mask64L (by assumption) (by omega) (by assumption) ?_)))
local macro_rules | `(tactic| walk_at "inplaceOp BitOr int int") => `(tactic| (k_here; (with_reducible refine ior_K (by assumption) ?_)))
abbrev decName : PySem.Str := Str.ofString "_VarintDecoder.<locals>.DecodeVarint"
/-- the code that the maker of the inner function keeps -/
inductive DT : List (Addr × Obj) → Prop
  | fresh : DT [(112, tabObj #[])]
  | made (c : Addr) (oc : Obj) (vs : Array Value) (t : Tok) : oc.data = .fields vs → vs[1]? = some (.str decName t) → @LT.lt Nat _ 112 c → DT [(c, oc), (112, tabObj #[rawInt 54, rawInt 4, .ref c])]
abbrev DecR (n q : Nat) (news : List (Addr × Obj)) (v : Value) (ns : List (Addr × Obj)) : Prop := ∃ D t1 t2 led', v = .ref D ∧ DT led' ∧ Off led' news ∧ @LE.le Nat _ (bnd (led' ++ news)) D ∧ ns = (D, ⟨.type "tuple", none, .seq #[.int (n : Int) t1, .int (q : Int) t2] 0, #[]⟩) :: (led' ++ news)
theorem dec_end {n q : Nat} {news big : List (Addr × Obj)} {h₀ h' : Heap} {L c D : Addr} {m : Str → Option Value} {s : Shared} {Q : Value → Shared → Prop} {oc : Obj} {vs : Array Value} {t t1 t2 : Tok} {tk : Nat} {y : Int}
    (hret : ∀ v h' tk' news', DecR n q news v news' → Fr h₀ L h' m → News h₀ L h' news' → Q v { s with heap := h', toks := tk' })
    (F : Fr h₀ L h' m) (N : News h₀ L h' big) (m0 : (D, ⟨.type "tuple", none, .seq #[.int (n : Int) t1, .int y t2] 0, #[]⟩) ∈ big) (hy : y = (q : Nat)) (m1 : (112, tabObj #[rawInt 54, rawInt 4, .ref c]) ∈ big) (m2 : (c, oc) ∈ big) (m3 : ∀ p ∈ news, p ∈ big)
    (h1 : oc.data = .fields vs) (h2 : vs[1]? = some (.str decName t)) (h3 : @LT.lt Nat _ 112 c) (ho : Off [(c, oc), (112, tabObj #[rawInt 54, rawInt 4, .ref c])] news) (hD : @LT.lt Nat _ c D ∧ @LE.le Nat _ (bnd news) D) : Q (.ref D) { s with heap := h', toks := tk } := by
  subst hy
  refine hret _ _ _ _ ⟨D, t1, t2, _, rfl, .made c oc vs t h1 h2 h3, ho, ?_, rfl⟩ F (cb_drop N ?_)
  · simp only [List.cons_append, List.nil_append, bnd]
    have a1 : @LT.lt Nat _ c D := hD.1
    have a2 : @LE.le Nat _ (bnd news) D := hD.2
    have a3 : @LT.lt Nat _ 112 D := Nat.lt_trans h3 a1
    exact Nat.max_le.mpr ⟨a1, Nat.max_le.mpr ⟨a3, a2⟩⟩
  intro p hp
  simp only [List.cons_append, List.nil_append, List.mem_cons] at hp
  rcases hp with rfl | rfl | rfl | hp
  · exact m0
  · exact m2
  · exact m1
  · exact m3 p hp
theorem DT.off {news : List (Addr × Obj)} {c : Addr} {oc : Obj} (h4 : @LE.le Nat _ (bnd news) c) (hn : ∀ p ∈ news, p.1 ≠ 112) : Off [(c, oc), (112, tabObj #[rawInt 54, rawInt 4, .ref c])] news := by
  intro p hp q hq
  rcases List.mem_cons.mp hq with rfl | hq
  · exact bnd_ne h4 p hp
  · rw [List.mem_singleton.mp hq]; exact hn p hp
set_option maxRecDepth 100000 in
set_option maxHeartbeats 8000000 in
theorem dec (w : World) (b : Array UInt8) (tb : Tok) (x : Int) (tx : Tok) (pre post : List Int) (n : Nat) (hb : KBw.bInts b = pre ++ pv n ++ post) (hz : (KBw.bInts b).length ≤ 16777216) (hx : x = (pre.length : Nat)) (h64 : n < 2 ^ 64) (led news : List (Addr × Obj)) (hv : DT led) (ho : Off led news) :
    Ct w 124 [.bytes b tb, .int x tx] (led ++ news) (DecR n (pre.length + (pv n).length) news) := by
  subst hx
  have hn : ∀ p ∈ news, p.1 ≠ 112 := by
    cases hv with
    | fresh => exact fun p hp => ho p hp _ (.head _)
    | made => exact fun p hp => ho p hp _ (.tail _ (.head _))
  unfold Ct
  run_tac afresh
  k_fill
  intro loose mean mg mb dp un gd cn cs a ccd cl outer A₀ base h₀ L m s Q E B F X N T C1 C2 hk hd hu hret
  cases hv
  all_goals (
    simp only [List.cons_append, List.nil_append] at N
    refine wpAny_call ?_
    k_dflt (walk_at "vq enter")
    k_steps
    refine Stop.off ?_
    rename Fr _ _ _ _ => F9
    rename News _ _ _ _ => N9
    refine dec_loop n pre.length b tb post pre F9 N9 rfl rfl rfl rfl hb rfl ?_
    clear F9 N9
    intro m₉ x u h9 tk9 hP9 F8 N8
    obtain ⟨xs, c, ys, hc1, hc2, hc3, hc4, hc5, hc6, hc7, hc8, hc9⟩ := decP_read hP9 h64
    have hr9 := hP9.2.1
    have hl9 : Last c (x.r + c % 128 * 2 ^ (7 * x.i) = n) := fun h => (hc6 (hc5.mpr h)).1
    (try k_fold)
    k_steps
    · have hcv : ¬ x.v < 128 := fun h => by have := hc5.mp h; omega
      refine' ksw_end ⟨x.i + 1, x.r + c % 128 * 2 ^ (7 * x.i), x.v / 128, _, _, _⟩ (by assumption) (by assumption) (by intro p hp; exact hp) trivial ?k1 ?k2 ?k3 ?k4
      (case k1 =>
        intro p hp
        simp only [decPs, List.mem_cons, List.not_mem_nil, or_false] at hp
        rcases hp with rfl | rfl | rfl | rfl <;> rfl)
      (case k2 =>
        intro z h2 h3
        have a1 := h2 _ (.head _)
        have a2 := h2 _ (.tail _ (.head _))
        have a3 := h2 _ (.tail _ (.tail _ (.head _)))
        have a4 := h2 _ (.tail _ (.tail _ (.tail _ (.head _))))
        have a5 : ¬ z = Str.ofString "b" := by
          intro e; subst e; exact absurd h3 (by decide)
        simp only [decPs] at a1 a2 a3 a4
        simp [kstB, a1, a2, a3, a4, a5])
      (case k3 => exact hc9 hcv _ _ _)
      (case k4 => (show x.v / 128 < x.v); omega)
    · have hcv : x.v < 128 := hc5.mpr (by omega)
      have hq := (hc6 hcv).2
      rename News h₀ L _ _ => N7
      refine' dec_end hret (by assumption) N7 ?m0 ?hy ?m1 ?m2 ?m3 (by assumption) (by assumption) ?h3 ?ho ?hD
      (case m0 => k_mem)
      (case hy => omega)
      (case m1 => k_mem)
      (case m2 => k_mem)
      (case m3 => walk_at "vq tail")
      (case h3 => first | assumption | omega)
      (case ho => first | assumption | exact DT.off (by omega) hn)
      (case hD => constructor <;> omega))
end
section
/-- the octet at a place -/
def OctAt (b : Array UInt8) (i : Int) (c : Nat) : Prop := ∃ xs ys, KBw.bInts b = xs ++ (c : Int) :: ys ∧ i = (xs.length : Nat)
/-- the octets between two places -/
def CutAt (b : Array UInt8) (lo hi : Int) (mid : List Int) : Prop := ∃ xs ys, KBw.bInts b = xs ++ mid ++ ys ∧ lo = (xs.length : Nat) ∧ hi = (xs.length + mid.length : Nat)
/-- a fact that holds in one case -/
def Then (P Q : Prop) : Prop := P → Q
theorem Then.get {P Q : Prop} (h : Then P Q) (p : P) : Q := h p
section
variable {prog : Program} {w : World} {A : Around} {E : Value → Shared → Prop} {s : Shared} {t u : Tok} {Q : Value → Shared → Prop} {h₀ : Heap} {L : Addr} {m : PySem.Str → Option Value} {news : List (Addr × Obj)}
theorem octAt_K {value slice : PySem.Expr} {b : Array UInt8} {i : Int} {c : Nat} (hk : OctAt b i c) (hz : (KBw.bInts b).length ≤ 16777216)
    (h : ∀ t' k, Q (.int (c : Int) t') { s with toks := k })
    (hs : subscripted slice false (.bytes b t) (.int i u) = operate [.bytes b t, .int i u] (getItem (.bytes b t) (.int i u)) := by with_unfolding_all rfl)
    (ht : ∀ r, letTemporaryGo value (.bytes b t) r = pure () := by intro _; with_unfolding_all rfl) : wpAny (model prog w) A (subscriptTail value slice (.bytes b t) (.int i u)) Q E s := by
  obtain ⟨xs, ys, e1, e2⟩ := hk
  exact byteAt e1 hz e2 h hs ht
theorem cutAt_K {value slice : PySem.Expr} {b : Array UInt8} {lo hi : Int} {mid : List Int} {tl th : Tok} (hF : Fr h₀ L s.heap m) (hN : News h₀ L s.heap news) (hk : CutAt b lo hi mid) (hz : (KBw.bInts b).length ≤ 16777216)
    (h : ∀ b' h' t' k, KBw.bInts b' = mid → Fr h₀ L h' m → News h₀ L h' news → Q (.bytes b' t') { s with heap := h', toks := k })
    (hs : subscripted slice false (.bytes b t) (.ref s.heap.objs.size) = operate [.ref s.heap.objs.size, .bytes b t] (getItem (.bytes b t) (.ref s.heap.objs.size)) := by with_unfolding_all rfl)
    (ht : ∀ r, letTemporaryGo value (.bytes b t) r = pure () := by intro _; with_unfolding_all rfl) :
    wpAny (model prog w) A (subscriptTail value slice (.bytes b t) (.ref s.heap.objs.size)) Q E { s with heap := s.heap.push { cls := .type "slice", data := .fields #[.int lo tl, .int hi th, .none] } } := by
  obtain ⟨xs, ys, e1, e2, e3⟩ := hk
  refine KBc.slice_K (ks := KBw.bInts b) hF hN rfl (.int lo tl) (.int hi th) hz ?_ hs ht
  intro h' t' k F' N' e
  refine h _ h' t' k ?_ F' N'
  rw [e]
  have hl : (KBw.bInts b).length = xs.length + mid.length + ys.length := by rw [e1]; simp; omega
  show List.take (clipAt _ hi - clipAt _ lo) (List.drop (clipAt _ lo) _) = mid
  rw [e2, e3, clipAt_nat, clipAt_nat, hl, Nat.min_eq_left (by omega), Nat.min_eq_left (by omega), e1, List.append_assoc, List.drop_left, Nat.add_sub_cancel_left, List.take_left]
end
theorem be_pos_len {n : Nat} (h : n ≠ 0) : 1 ≤ (be n).length := by rw [be_pos h]; simp
theorem item_facts {b : Array UInt8} {pre post : List Int} {n : Nat} {x : Int} (hb : KBw.bInts b = pre ++ rlp n ++ post) (hx : x = (pre.length : Nat)) (h64 : n < 2 ^ 64) :
    ∃ c : Nat, OctAt b x c ∧ c ≤ 136 ∧ CutAt b x (x + 1) [(c : Int)] ∧ Then (128 ≤ c) (CutAt b (x + 1) (x + 1 + ((c : Int) - 128)) (be n)) ∧ Then (c = 129) (OctAt b (x + 1) n) ∧ (c = 129 → 128 ≤ n) ∧ (c < 128 → rlp n = [(c : Int)] ∧ be n = [(c : Int)]) ∧ (128 ≤ c → rlp n = (c : Int) :: be n) ∧ (c < 128 → (rlp n).length = 1) ∧ (128 ≤ c → (rlp n).length + 127 = c) ∧ (c < 128 → c = n) := by
  subst hx
  by_cases h0 : n = 0
  · subst h0
    refine ⟨128, ⟨pre, post, ?_, rfl⟩, by omega, ⟨pre, post, hb, rfl, by simp⟩, fun _ => ⟨pre ++ [128], post, ?_, by simp, by rw [be_zero]; simp⟩, fun h => by omega, fun h => by omega, fun h => by omega, fun _ => by rw [be_zero]; rfl, fun h => by omega, fun h => rfl, fun h => by omega⟩
    · rw [hb]; simp [rlp]
    · rw [hb, be_zero]; simp [rlp]
  · by_cases h1 : n < 128
    · have e : rlp n = [(n : Int)] := by rw [rlp, if_neg h0, if_pos h1]
      refine ⟨n, ⟨pre, post, ?_, rfl⟩, by omega, ⟨pre, post, by rw [hb, e], rfl, by simp⟩, fun h => by omega, fun h => by omega, fun h => by omega, fun _ => ⟨e, be_small h0 (by omega)⟩, fun h => by omega, fun h => by rw [e]; rfl, fun h => by omega, fun _ => rfl⟩
      rw [hb, e]; simp
    · have e : rlp n = ((128 + (be n).length : Nat) : Int) :: be n := by rw [rlp, if_neg h0, if_neg h1]
      have hl := be_len_bounds h0 h64
      refine ⟨128 + (be n).length, ⟨pre, be n ++ post, ?_, rfl⟩, by omega, ⟨pre, be n ++ post, ?_, rfl, by simp⟩, fun _ => ⟨pre ++ [((128 + (be n).length : Nat) : Int)], post, ?_, by simp, by simp; omega⟩, fun h => ?_, fun h => by omega, fun h => by omega, fun _ => e, fun h => by omega, fun _ => by rw [e, List.length_cons]; omega, fun h => by omega⟩
      · rw [hb, e]; simp
      · rw [hb, e]; simp
      · rw [hb, e]; simp
      · have h2 := be_len_one h0 (by omega)
        refine ⟨pre ++ [((128 + (be n).length : Nat) : Int)], post, ?_, by simp⟩
        rw [hb, e]
        conv => lhs; rw [be_small h0 h2]
        simp [be_small h0 h2]
local macro_rules | `(tactic| walk_at "subscriptTail Name Name bytes int") => `(tactic| (k_here; k_dflt (refine' octAt_K ?a ?b ?_; (case a => first | assumption | exact Then.get (by assumption) (by omega)); (case b => assumption)); intro tc' kc'))
local macro_rules | `(tactic| walk_at "subscriptTail Name BinOp bytes int") => `(tactic| (k_here; k_dflt (refine' octAt_K ?a ?b ?_; (case a => first | assumption | exact Then.get (by assumption) (by omega)); (case b => assumption)); intro tc' kc'))
local macro_rules | `(tactic| walk_at "subscriptTail Name Slice bytes ref") => `(tactic| (k_here; k_dflt (refine' cutAt_K (s := ⟨_, _, _, _, _⟩) ?F ?N ?a ?b ?_; (case F => k_asm); (case N => k_asm); (case a => first | assumption | exact Then.get (by assumption) (by omega)); (case b => assumption)); intro b' h' t' k' hb' F' N'; (try k_sweep)))
abbrev ItemR (n q : Nat) (news : List (Addr × Obj)) (v : Value) (ns : List (Addr × Obj)) : Prop := ∃ D l b1 b2 t1 t2 t3 k, v = .ref D ∧ KBw.bInts b1 = be n ∧ KBw.bInts b2 = rlp n ∧ @LE.le Nat _ (bnd news) l ∧ @LT.lt Nat _ l D ∧ ns = (D, ⟨.type "tuple", none, .seq #[.bytes b1 t1, .ref l, .int (q : Int) t3] 0, #[]⟩) :: (l, W.listOf #[.bytes b2 t2] k) :: news
theorem item_end {n q : Nat} {news big : List (Addr × Obj)} {h₀ h' : Heap} {L D l : Addr} {m : Str → Option Value} {s : Shared} {Q : Value → Shared → Prop} {t1 t2 t3 : Tok} {tk k : Nat} {y : Int} {b1 b2 : Array UInt8}
    (hret : ∀ v h' tk' news', ItemR n q news v news' → Fr h₀ L h' m → News h₀ L h' news' → Q v { s with heap := h', toks := tk' })
    (F : Fr h₀ L h' m) (N : News h₀ L h' big) (hb1 : KBw.bInts b1 = be n) (hb2 : KBw.bInts b2 = rlp n) (hy : y = (q : Nat)) (m0 : (D, ⟨.type "tuple", none, .seq #[.bytes b1 t1, .ref l, .int y t3] 0, #[]⟩) ∈ big) (m1 : (l, W.listOf #[.bytes b2 t2] k) ∈ big) (m3 : ∀ p ∈ news, p ∈ big)
    (h1 : @LE.le Nat _ (bnd news) l) (h2 : @LT.lt Nat _ l D) : Q (.ref D) { s with heap := h', toks := tk } := by
  subst hy
  refine hret _ _ _ _ ⟨D, l, b1, b2, t1, t2, t3, k, rfl, hb1, hb2, h1, h2, rfl⟩ F (cb_drop N ?_)
  intro p hp
  simp only [List.mem_cons] at hp
  rcases hp with rfl | rfl | hp
  · exact m0
  · exact m1
  · exact m3 p hp
theorem ints_empty {b : Array UInt8} {ks : List Int} (h : KBw.bInts b = ks) : KBw.bInts (#[] ++ b) = ks := by simpa using h
set_option maxRecDepth 100000 in
set_option maxHeartbeats 8000000 in
theorem item (w : World) (b : Array UInt8) (tb : Tok) (x : Int) (tx : Tok) (pre post : List Int) (n : Nat) (hb : KBw.bInts b = pre ++ rlp n ++ post) (hz : (KBw.bInts b).length ≤ 16777216) (hx : x = (pre.length : Nat)) (h64 : n < 2 ^ 64) (news : List (Addr × Obj)) :
    Ct w 525 [.bytes b tb, .int x tx] news (ItemR n (pre.length + (rlp n).length) news) := by
  have hbe : (be n).length ≤ 8 := by
    by_cases h0 : n = 0
    · rw [h0, be_zero]; simp
    · exact (be_len_bounds h0 h64).2
  obtain ⟨c, c1, c2, c3, c4, c5, c6, c7, c8, c9, c10, c11⟩ := item_facts hb hx h64
  unfold Ct
  run_tac afresh
  k_fill
  intro loose mean mg mb dp un gd cn cs a ccd cl outer A₀ base h₀ L m s Q E B F X N T C1 C2 hk hd hu hret
  refine wpAny_call ?_
  k_dflt (walk_at "vq enter")
  k_steps
  all_goals try (exfalso; omega)
  all_goals (
    rename News h₀ L _ _ => N7
    refine' item_end hret (by assumption) N7 ?b1 ?b2 ?hy ?m0 ?m1 ?m3 ?h1 ?h2
    (case m0 => k_mem)
    (case m1 => k_mem)
    (case m3 => walk_at "vq tail")
    (case h1 => omega)
    (case h2 => omega)
    (case b1 => first | assumption | (rw [(c7 (by omega)).2]; assumption))
    (case b2 => first | (rw [c8 (by omega)]; assumption) | (rw [(c7 (by omega)).1]; exact ints_empty (by assumption)))
    (case hy => first | (have := c9 (by omega); omega) | (have := c10 (by omega); omega)))
end
section
section
variable {prog : Program} {w : World} {A : Around} {E : Value → Shared → Prop} {s : Shared} {env : Env} {h₀ : Heap} {target : PySem.Expr} {body : List Stmt} {Q : Flow → Shared → Prop}
/-- how a turn of a loop ends: the iterator as it was, the ledger's part that is kept, and what it says -/
def TurnEnd {σ : Type} (h₀ : Heap) (L : Addr) (own : Addr × Obj) (Led : σ → List (Addr × Obj)) (ps : σ → List (Str × Value)) (P : Nat → σ → Prop) (i : Nat) (s : Shared) (f : Flow) (s' : Shared) : Prop :=
  f = .next ∧ ∃ c h' tk m' news', s' = { s with heap := h', toks := tk } ∧ Fr h₀ L h' m' ∧ News h₀ L h' news' ∧ (∀ p ∈ Led c, p ∈ news') ∧ own ∈ news' ∧ (∀ p ∈ Led c, p.1 ≠ own.1) ∧ (∀ p ∈ ps c, m' p.1 = some p.2) ∧ P i c
theorem TurnEnd.intro {σ : Type} {L : Addr} {own : Addr × Obj} {Led : σ → List (Addr × Obj)} {ps : σ → List (Str × Value)} {P : Nat → σ → Prop} {i : Nat} {s : Shared} (c : σ) {h' : Heap} {tk : Nat} {m' : Str → Option Value} {news' : List (Addr × Obj)}
    (F : Fr h₀ L h' m') (N : News h₀ L h' news') (hn : ∀ p ∈ Led c, p ∈ news') (ho : own ∈ news') (ha : ∀ p ∈ Led c, p.1 ≠ own.1) (hk : ∀ p ∈ ps c, m' p.1 = some p.2) (hp : P i c) :
    TurnEnd h₀ L own Led ps P i s .next { s with heap := h', toks := tk } := ⟨rfl, c, h', tk, m', news', rfl, F, N, hn, ho, ha, hk, hp⟩
theorem kstB_self {m : Str → Option Value} {ps : List (Str × Value)} (h : ∀ p ∈ ps, m p.1 = some p.2) : kstB m ps = m := by
  funext y
  exact kstB_eq h fun _ => rfl
set_option maxHeartbeats 3200000 in
theorem listT {σ : Type} {l : Addr} {vs : List Value} {nn : Nat} {m₀ : Str → Option Value} {news : List (Addr × Obj)} (Led : σ → List (Addr × Obj)) (ps : σ → List (Str × Value)) (P : Nat → σ → Prop) (c₀ : σ)
    (hh : A.handled = none) (hin : ∀ c, (l, W.listOf vs.toArray nn) ∈ Led c) (F : Fr h₀ env.locals s.heap m₀) (N : News h₀ env.locals s.heap news) (hn : ∀ p ∈ Led c₀, p ∈ news) (hk : ∀ p ∈ ps c₀, m₀ p.1 = some p.2) (hp : P 0 c₀)
    (turn : ∀ (i : Nat) v (c : σ) (u : Str → Option Value) s₁ I oI, vs[i]? = some v → P i c → (∀ p ∈ Led c, p.1 ≠ I) → Fr h₀ env.locals s₁.heap (kstB u (ps c)) → News h₀ env.locals s₁.heap ((I, oI) :: Led c) →
      wpAny (model prog w) A (assign target env v) (fun _ s₃ => wpAny (model prog w) A (execs body env) (TurnEnd h₀ env.locals (I, oI) Led ps P (i + 1) s₁) E s₃) E s₁)
    (done : ∀ (c : σ) (u : Str → Option Value) h tk, P vs.length c → Fr h₀ env.locals h (kstB u (ps c)) → News h₀ env.locals h (Led c) → Q .next { s with heap := h, toks := tk }) :
    wpAny (model prog w) A (pyIter (.ref l)) (fun it s₂ => LoopAtT prog w A h₀ env target body Q E it s₂) E s := by
  have N₀ : News h₀ env.locals s.heap (Led c₀) := cb_drop N hn
  have hol : s.heap.get? l = some (W.listOf vs.toArray nn) := (N₀ _ (hin c₀)).1
  have hls : s.heap.IsList l vs.toArray := ⟨_, hol, rfl, nn, rfl⟩
  have hne : l ≠ s.heap.objs.size := Nat.ne_of_lt (Heap.lt_size hol)
  refine wpAny_pyIter_list hls ?_
  have WW := Walks.list (prog := prog) (w := w) hh s.heap.objs.size l hne vs.toArray
  have hlen : vs.toArray.size = vs.length := by simp
  rw [hlen] at WW
  have hL0 : h₀.get? l = none := (N₀ _ (hin c₀)).2.2
  refine ⟨_, _, _, vs.length, _, _, m₀, Led c₀, (fun i m nx => ∃ c, nx = Led c ∧ (∀ p ∈ ps c, m p.1 = some p.2) ∧ P i c), rfl, WW, ?_, ?_, ?_, ⟨⟨_, Heap.get?_push_size _ rfl, rfl, rfl⟩, hls.at fun o e => Heap.get?_push_of_some _ e⟩, F.push _, (fun p hp => ⟨Heap.get?_push_of_some _ (N₀ p hp).1, (N₀ p hp).2⟩), (fun i s' v Q' st hQ' => letGo_listiter st.1 hQ'), ⟨c₀, rfl, hk, hp⟩, ?_, ?_⟩
  · intro hm
    rcases List.mem_cons.mp hm with e | hm
    · exact absurd F.ns.lt (e ▸ Nat.lt_irrefl _)
    · exact (N₀ _ (hin c₀)).2.1 ((List.mem_singleton.mp hm).symm)
  · intro b hb
    rw [List.mem_singleton.mp hb]
    exact next_is_new F
  · intro p hp hI
    exact absurd (Heap.lt_size (N₀ p hp).1) ((List.mem_singleton.mp hI) ▸ Nat.lt_irrefl _)
  · rintro i v m₁ news₁ s₁ own hi hP ⟨c, rfl, hk1, hp1⟩ hoff hown hget hfp hst F₁ N₁
    have hP' : vs[i]? = some v := by simpa using hP
    have hI0 : h₀.get? s.heap.objs.size = none := next_is_new F
    obtain ⟨⟨oI, hoI, _⟩, _⟩ := id hst
    have hIown : (s.heap.objs.size, oI) ∈ own := hfp _ (List.mem_cons.mpr (.inl rfl)) hI0 _ hoI
    have N₂ : News h₀ env.locals s₁.heap ((s.heap.objs.size, oI) :: Led c) := fun p hp => N₁ p ((List.mem_cons.mp hp).elim (fun h => List.mem_append.mpr (.inl (h ▸ hIown))) fun h => List.mem_append.mpr (.inr h))
    have hlo : s₁.heap.get? l = some (W.listOf vs.toArray nn) := (N₁ _ (List.mem_append.mpr (.inr (hin c)))).1
    refine wpAny_mono (turn i v c m₁ s₁ _ oI hP' hp1 (fun p hp e => hoff p hp (List.mem_singleton.mpr e)) (by rw [kstB_self hk1]; exact F₁) N₂) (fun _ s₃ g => wpAny_mono g (fun f s₂ p => ?_) fun _ _ e => e) fun _ _ e => e
    obtain ⟨rfl, c', h', tk, m', news', rfl, F', N', hn', ho', ha', hk', hp'⟩ := p
    refine ⟨rfl, h', tk, m', Led c', rfl, F', fun p hp => ?_, fun p hp hq => ha' p hp (List.mem_singleton.mp hq), c', rfl, hk', hp'⟩
    rcases List.mem_append.mp hp with h | h
    · rcases List.mem_cons.mp (hown p h) with h2 | h2
      · have h3 := hget p h
        rw [h2, hoI] at h3
        have h4 : p = (s.heap.objs.size, oI) := Prod.ext h2 (Option.some.inj h3).symm
        rw [h4]
        exact N' _ ho'
      · have h1 : p.1 = l := List.mem_singleton.mp h2
        have h2 := hget p h
        rw [h1, hlo] at h2
        have h3 : p = (l, W.listOf vs.toArray nn) := Prod.ext h1 (Option.some.inj h2).symm
        rw [h3]
        exact N' _ (hn' _ (hin c'))
    · exact N' p (hn' p h)
  · rintro h' tk m' news' F' N' _ ⟨c, rfl, hk1, hp1⟩
    exact done c m' h' tk hp1 (by rw [kstB_self hk1]; exact F') N'
set_option maxHeartbeats 3200000 in
theorem rangeT {σ : Type} {r : Addr} {a₀ b₀ : Int} {t₀ u₀ v₀ : Tok} {n : Nat} {x : Str} {px : Pos} {m₀ : Str → Option Value} {news : List (Addr × Obj)} (Led : σ → List (Addr × Obj)) (ps : σ → List (Str × Value)) (P : Nat → σ → Prop) (c₀ : σ)
    (hh : A.handled = none) (hr : IsRange s.heap r a₀ b₀ 1 t₀ u₀ v₀) (hsmall : Builtin.Range.small a₀ b₀ 1 = true) (hsz : Builtin.Range.rangeSize a₀ b₀ 1 = (n : Int)) (F : Fr h₀ env.locals s.heap m₀) (N : News h₀ env.locals s.heap news) (hn : ∀ p ∈ Led c₀, p ∈ news) (hk : ∀ p ∈ ps c₀, m₀ p.1 = some p.2) (hp : P 0 c₀)
    (turn : ∀ (i : Nat) t (c : σ) (u : Str → Option Value) s₁ I oI, i < n → P i c → (∀ p ∈ Led c, p.1 ≠ I) → Fr h₀ env.locals s₁.heap (kstB u (ps c)) → News h₀ env.locals s₁.heap ((I, oI) :: Led c) →
      wpAny (model prog w) A (assign (.Name x px) env (.int (a₀ + (i : Int)) t)) (fun _ s₃ => wpAny (model prog w) A (execs body env) (TurnEnd h₀ env.locals (I, oI) Led ps P (i + 1) s₁) E s₃) E s₁)
    (done : ∀ (c : σ) (u : Str → Option Value) h tk, P n c → Fr h₀ env.locals h (kstB u (ps c)) → News h₀ env.locals h (Led c) → Q .next { s with heap := h, toks := tk }) :
    wpAny (model prog w) A (pyIter (.ref r)) (fun it s₂ => LoopAtT prog w A h₀ env (.Name x px) body Q E it s₂) E s := by
  have N₀ : News h₀ env.locals s.heap (Led c₀) := cb_drop N hn
  refine wpAny_pyIter_range hr hsmall ?_
  have W : Walks prog w A s.heap.objs.size [s.heap.objs.size] [s.heap.objs.size] n (fun i v => i < n ∧ ∃ t, v = .int (a₀ + i * 1) t)
      (fun i h => IsRangeIter h s.heap.objs.size (a₀ + (i : Nat) * 1) ((n : Int) - (i : Nat)) 1) := (Walks.range hh _ a₀ 1 n).bound
  refine ⟨_, _, _, n, _, _, m₀, Led c₀, (fun i m nx => ∃ c, nx = Led c ∧ (∀ p ∈ ps c, m p.1 = some p.2) ∧ P i c), rfl, W, ?_, ?_, ?_, ?_, F.push _, (fun p hp => ⟨Heap.get?_push_of_some _ (N₀ p hp).1, (N₀ p hp).2⟩), (fun i s' v Q' st hQ' => ?_), ⟨c₀, rfl, hk, hp⟩, ?_, ?_⟩
  · intro hm
    exact absurd F.ns.lt ((List.mem_singleton.mp hm) ▸ Nat.lt_irrefl _)
  · intro b hb
    rw [List.mem_singleton.mp hb]
    exact next_is_new F
  · intro p hp hI
    exact absurd (Heap.lt_size (N₀ p hp).1) ((List.mem_singleton.mp hI) ▸ Nat.lt_irrefl _)
  · show IsRangeIter _ _ _ _ _
    rw [hsz]
    simpa using Heap.get?_push_size _ rfl
  · unfold letOwnedTupleGo
    exact wpAny_pure hQ'
  · rintro i v m₁ news₁ s₁ own hi ⟨_, t, rfl⟩ ⟨c, rfl, hk1, hp1⟩ hoff hown hget hfp hst F₁ N₁
    have hI0 : h₀.get? s.heap.objs.size = none := next_is_new F
    have hoI := id hst
    have hIown := hfp _ (List.mem_cons.mpr (.inl rfl)) hI0 _ hoI
    have N₂ : News h₀ env.locals s₁.heap ((s.heap.objs.size, _) :: Led c) := fun p hp => N₁ p ((List.mem_cons.mp hp).elim (fun h => List.mem_append.mpr (.inl (h ▸ hIown))) fun h => List.mem_append.mpr (.inr h))
    have e1 : a₀ + (i : Int) * 1 = a₀ + (i : Int) := by omega
    rw [e1]
    refine wpAny_mono (turn i t c m₁ s₁ _ _ hi hp1 (fun p hp e => hoff p hp (List.mem_singleton.mpr e)) (by rw [kstB_self hk1]; exact F₁) N₂) (fun _ s₃ g => wpAny_mono g (fun f s₂ p => ?_) fun _ _ e => e) fun _ _ e => e
    obtain ⟨rfl, c', h', tk, m', news', rfl, F', N', hn', ho', ha', hk', hp'⟩ := p
    refine ⟨rfl, h', tk, m', Led c', rfl, F', fun p hp => ?_, fun p hp hq => ha' p hp (List.mem_singleton.mp hq), c', rfl, hk', hp'⟩
    rcases List.mem_append.mp hp with h | h
    · have h2 := List.mem_singleton.mp (hown p h)
      have h3 := hget p h
      rw [h2, hoI] at h3
      have h4 : p = (s.heap.objs.size, _) := Prod.ext h2 (Option.some.inj h3).symm
      rw [h4]
      exact N' _ ho'
    · exact N' p (hn' p h)
  · rintro h' tk m' news' F' N' _ ⟨c, rfl, hk1, hp1⟩
    exact done c m' h' tk hp1 (by rw [kstB_self hk1]; exact F') N'
end
end
section
open Lean Meta Elab
/-- the law's definition as the program has it -/
def lawDef : MetaM (Array Lean.Expr) := do
  let some (.defnInfo d) := (← getEnv).find? ``PySem.Challenge.pw_vq0009_01 | throwError "no program"
  let some e := d.value.find? fun x => x.isAppOfArity ``PySem.Stmt.FunctionDef 10 && ((x.getAppArgs[0]!.find? fun y => match y with | .lit (.strVal "law") => true | _ => false).isSome) | throwError "no law"
  return e.getAppArgs
def listItems : Nat → Lean.Expr → List Lean.Expr
  | 0, _ => []
  | n + 1, e => if e.isAppOfArity ``List.cons 3 then e.getAppArgs[1]! :: listItems n e.getAppArgs[2]! else []
def stmtList (l : List Lean.Expr) : MetaM Lean.Expr := mkListLit (Lean.mkConst ``PySem.Stmt) l
def nthOf (l : Lean.Expr) (i : Nat) : MetaM Lean.Expr := do
  let some e := (listItems 1000 l)[i]? | throwError "no statement"
  return e
def lawStmt (i : Nat) : MetaM Lean.Expr := do nthOf (← lawDef)[2]! i
def lawScopeE : TermElabM Lean.Expr := do return (← lawDef)[6]!
def lawFromE (i : Nat) : TermElabM Lean.Expr := do stmtList ((listItems 1000 (← lawDef)[2]!).drop i)
def lawStmtE (i : Nat) : TermElabM Lean.Expr := do lawStmt i
def lawTargetE (i : Nat) : TermElabM Lean.Expr := do return (← lawStmt i).getAppArgs[0]!
def lawBodyE (i : Nat) : TermElabM Lean.Expr := do return (← lawStmt i).getAppArgs[2]!
def lawSubE (i j : Nat) : TermElabM Lean.Expr := do nthOf (← lawStmt i).getAppArgs[2]! j
def lawSubValueE (i j : Nat) : TermElabM Lean.Expr := do return (← nthOf (← lawStmt i).getAppArgs[2]! j).getAppArgs[1]!
def lawTarget2E (i : Nat) : TermElabM Lean.Expr := do return (← nthOf (← lawStmt i).getAppArgs[2]! 0).getAppArgs[0]!
def lawBody2E (i : Nat) : TermElabM Lean.Expr := do return (← nthOf (← lawStmt i).getAppArgs[2]! 0).getAppArgs[2]!
def lawSub2E (i j k : Nat) : TermElabM Lean.Expr := do nthOf (← nthOf (← lawStmt i).getAppArgs[2]! j).getAppArgs[2]! k
def figure (e : Lean.Expr) : Nat := match e.consumeMData with
  | .lit (.natVal k) => k
  | e => if e.isAppOfArity ``OfNat.ofNat 3 then (match e.getAppArgs[1]! with | .lit (.natVal k) => k | _ => 0) else 0
/-- fails unless the code that stands in the goal lies on that line -/
def atLine (n : Nat) : Tactic.TacticM Unit := do
  let g ← Tactic.getMainTarget
  let some e := (← instantiateMVars g).find? fun x => (x.isAppOf ``PySem.exec || x.isAppOf ``PySem.eval) && x.getAppNumArgs ≥ 2 | throwError "atLine: no code"
  let some p := e.getAppArgs[0]!.getAppArgs.back? | throwError "atLine: no place"
  unless p.isAppOfArity ``PySem.Pos.mk 4 && figure p.getAppArgs[0]! == n do throwError "atLine: another line"
end
section
/-- the ledger's old part: the two code tables, and the rest -/
def TL (rest tl : List (Addr × Obj)) : Prop := ∃ ledV ledD, VT ledV ∧ DT ledD ∧ Off ledV (ledD ++ rest) ∧ Off ledD (ledV ++ rest) ∧ tl = ledV ++ (ledD ++ rest)
def Sep (as : List Addr) (tl : List (Addr × Obj)) : Prop := ∀ a ∈ as, ∀ q ∈ tl, q.1 ≠ a
theorem Sep.nil {tl : List (Addr × Obj)} : Sep [] tl := fun _ h => nomatch h
theorem Sep.cons {a : Addr} {as : List Addr} {tl : List (Addr × Obj)} (h : ∀ q ∈ tl, q.1 ≠ a) (r : Sep as tl) : Sep (a :: as) tl := fun b hb => (List.mem_cons.mp hb).elim (fun e => e ▸ h) (r b)
theorem Sep.at {a : Addr} {as : List Addr} {tl : List (Addr × Obj)} (h : Sep as tl) (m : a ∈ as) : ∀ q ∈ tl, q.1 ≠ a := h a m
inductive Pre : List (Addr × Obj) → List (Addr × Obj) → List (Addr × Obj) → Prop
  | nil {tl : List (Addr × Obj)} : Pre tl [] tl
  | cons {x : Addr × Obj} {big xs tl : List (Addr × Obj)} : Pre big xs tl → Pre (x :: big) (x :: xs) tl
theorem Pre.eq {big xs tl : List (Addr × Obj)} (h : Pre big xs tl) : big = xs ++ tl := by
  induction h with
  | nil => rfl
  | cons _ ih => rw [ih]; rfl
theorem perm3 {xs v d r : List (Addr × Obj)} : ∀ p ∈ v ++ (xs ++ (d ++ r)), p ∈ xs ++ (v ++ (d ++ r)) := by
  intro p hp
  simp only [List.mem_append] at hp ⊢
  rcases hp with h | h | h | h <;> simp [h]
theorem perm3' {xs v d r : List (Addr × Obj)} : ∀ p ∈ xs ++ (v ++ (d ++ r)), p ∈ v ++ (xs ++ (d ++ r)) := by
  intro p hp
  simp only [List.mem_append] at hp ⊢
  rcases hp with h | h | h | h <;> simp [h]
theorem perm4 {xs v d r : List (Addr × Obj)} : ∀ p ∈ d ++ (xs ++ (v ++ r)), p ∈ xs ++ (v ++ (d ++ r)) := by
  intro p hp
  simp only [List.mem_append] at hp ⊢
  rcases hp with h | h | h | h <;> simp [h]
theorem perm4' {x : Addr × Obj} {xs v d r : List (Addr × Obj)} : ∀ p ∈ x :: (xs ++ (v ++ (d ++ r))), p ∈ x :: (d ++ (xs ++ (v ++ r))) := by
  intro p hp
  simp only [List.mem_cons, List.mem_append] at hp ⊢
  rcases hp with h | h | h | h | h <;> simp [h]
theorem Off.app {led a b : List (Addr × Obj)} (h1 : Off led a) (h2 : Off led b) : Off led (a ++ b) := fun p hp => (List.mem_append.mp hp).elim (h1 p) (h2 p)
theorem Off.left {led a b : List (Addr × Obj)} (h : Off led (a ++ b)) : Off led a := fun p hp => h p (List.mem_append_left _ hp)
theorem Off.right {led a b : List (Addr × Obj)} (h : Off led (a ++ b)) : Off led b := fun p hp => h p (List.mem_append_right _ hp)
theorem Off.symm {a b : List (Addr × Obj)} (h : Off a b) : Off b a := fun p hp q hq => (h q hq p hp).symm
theorem Sep.off {xs led tl : List (Addr × Obj)} (h : Sep (xs.map Prod.fst) tl) (hs : ∀ p ∈ led, p ∈ tl) : Off led xs := fun p hp q hq => (h p.1 (List.mem_map.mpr ⟨p, hp, rfl⟩) q (hs q hq)).symm
theorem Sep.of_off {xs a b : List (Addr × Obj)} (h1 : Off a xs) (h2 : Sep (xs.map Prod.fst) b) : Sep (xs.map Prod.fst) (a ++ b) := by
  intro x hx q hq
  obtain ⟨p, hp, rfl⟩ := List.mem_map.mp hx
  rcases List.mem_append.mp hq with hq | hq
  · exact (h1 p hp q hq).symm
  · exact h2 _ hx q hq
theorem allLt_app {d : Addr} {l l' : List (Addr × Obj)} : AllLt d (l ++ l') = (AllLt d l ∧ AllLt d l') := by
  induction l with
  | nil => simp [AllLt]
  | cons q l ih => simp only [List.cons_append, AllLt, ih, and_assoc]
theorem allLt_sub {d : Addr} {l l' : List (Addr × Obj)} (h : AllLt d l) (hs : ∀ p ∈ l', p ∈ l) : AllLt d l' := by
  induction l' with
  | nil => trivial
  | cons q l' ih =>
    refine ⟨?_, ih fun p hp => hs p (.tail _ hp)⟩
    have g : ∀ {l : List (Addr × Obj)}, AllLt d l → ∀ p ∈ l, p.1 < d := by
      intro l
      induction l with
      | nil => intro _ p hp; cases hp
      | cons a l ih => rintro ⟨h1, h2⟩ p hp; rcases List.mem_cons.mp hp with rfl | hp; exact h1; exact ih h2 p hp
    exact g h q (hs q (.head _))
section
variable {w : World} {loose : List Str} {mean : ExcName → Option Value} {mg mb : Str → Option Value} {dp un : Nat} {gd : Option (List Code)} {cn : Str} {cs : Scope} {a : Addr} {ccd : Value} {cl : List (Str × Addr)} {outer : List Env} {A₀ : Around} {base h₀ : Heap} {L : Addr} {m : Str → Option Value} {s : Shared} {Q E : Value → Shared → Prop} {big xs tl rest : List (Addr × Obj)}
theorem vb_use {x : Int} {t : Tok} {n : Nat} (B : Below A₀ base outer h₀) (F : Fr h₀ L s.heap m) (X : (hd.heap_39 w.params).In h₀) (N : News h₀ L s.heap big) (T : Top topProg loose mean mg mb h₀) (C1 : CodeHd base 116 112) (C2 : CodeHd base 70 66) (htl : TL rest tl) (hb : Pre big xs tl) (hs : Sep (xs.map Prod.fst) tl)
    (e : x = (n : Nat)) (h64 : n < 2 ^ 64) (hk : cs.kind = .function) (hd : dp + 30 < recursionLimit) (hu : un + 300 < cLine)
    (h : ∀ b t' h' tk' tl', KBw.bInts b = pv n → TL rest tl' → Sep (xs.map Prod.fst) tl' → Fr h₀ L h' m → News h₀ L h' (xs ++ tl') → Q (.bytes b t') { s with heap := h', toks := tk' }) :
    wpAny (model PySem.Challenge.rw_vq0009_01.row.prog w) (ktrTop dp un gd cn cs L a ccd cl outer) (call (.ref 71) [.int x t]) Q E s := by
  obtain ⟨ledV, ledD, h1, h2, h3, h4, rfl⟩ := htl
  have hb := hb.eq
  subst hb
  have o1 : Off ledV xs := Sep.off hs fun p hp => List.mem_append_left _ hp
  refine vb w x n e h64 t ledV (xs ++ (ledD ++ rest)) h1 (o1.app h3) loose mean mg mb dp un gd cn cs a ccd cl outer A₀ base h₀ L m s Q E B F X (cb_drop N perm3) T C1 C2 hk hd hu ?_
  rintro v h' tk' news' ⟨b, t', led', rfl, hb, hv', ho', rfl⟩ F' N'
  refine h b t' h' tk' (led' ++ (ledD ++ rest)) hb ⟨led', ledD, hv', h2, ho'.right, ho'.right.left.symm.app h4.right, rfl⟩ (Sep.of_off ho'.left fun a ha q hq => hs a ha q (List.mem_append_right _ hq)) F' (cb_drop N' perm3')
theorem dec_use {b : Array UInt8} {tb : Tok} {x : Int} {tx : Tok} {pre post : List Int} {n : Nat} (B : Below A₀ base outer h₀) (F : Fr h₀ L s.heap m) (X : (Mine.hd.heap_39 w.params).In h₀) (N : News h₀ L s.heap big) (T : Top topProg loose mean mg mb h₀) (C1 : CodeHd base 116 112) (C2 : CodeHd base 70 66) (htl : TL rest tl) (hb : Pre big xs tl) (hs : Sep (xs.map Prod.fst) tl)
    (e : KBw.bInts b = pre ++ pv n ++ post) (hz : (KBw.bInts b).length ≤ 16777216) (hx : x = (pre.length : Nat)) (h64 : n < 2 ^ 64) (hk : cs.kind = .function) (hd : dp + 30 < recursionLimit) (hu : un + 300 < cLine)
    (h : ∀ D t1 t2 h' tk' tl', TL rest tl' → Sep (xs.map Prod.fst) tl' → AllLt D (xs ++ tl') → Fr h₀ L h' m → News h₀ L h' ((D, ⟨.type "tuple", none, .seq #[.int (n : Int) t1, .int ((pre.length + (pv n).length : Nat) : Int) t2] 0, #[]⟩) :: (xs ++ tl')) → Q (.ref D) { s with heap := h', toks := tk' }) :
    wpAny (model PySem.Challenge.rw_vq0009_01.row.prog w) (ktrTop dp un gd cn cs L a ccd cl outer) (call (.ref 124) [.bytes b tb, .int x tx]) Q E s := by
  obtain ⟨ledV, ledD, h1, h2, h3, h4, rfl⟩ := htl
  have hb := hb.eq
  subst hb
  have o1 : Off ledD xs := Sep.off hs fun p hp => List.mem_append_right _ (List.mem_append_left _ hp)
  refine dec w b tb x tx pre post n e hz hx h64 ledD (xs ++ (ledV ++ rest)) h2 (o1.app h4) loose mean mg mb dp un gd cn cs a ccd cl outer A₀ base h₀ L m s Q E B F X (cb_drop N perm4) T C1 C2 hk hd hu ?_
  rintro v h' tk' news' ⟨D, t1, t2, led', rfl, hv', ho', hD, rfl⟩ F' N'
  have hs' : Sep (xs.map Prod.fst) (ledV ++ (led' ++ rest)) := by
    intro a ha q hq
    rcases List.mem_append.mp hq with hq | hq
    · exact hs a ha q (List.mem_append_left _ hq)
    · rcases List.mem_append.mp hq with hq | hq
      · obtain ⟨p, hp, rfl⟩ := List.mem_map.mp ha
        exact (ho'.left p hp q hq).symm
      · exact hs a ha q (List.mem_append_right _ (List.mem_append_right _ hq))
  refine h D t1 t2 h' tk' (ledV ++ (led' ++ rest)) ⟨ledV, led', h1, hv', ho'.right.left.symm.app h3.right, ho'.right, rfl⟩ hs' ?_ F' (cb_drop N' perm4')
  rw [← allLt_bnd] at hD
  refine allLt_sub hD ?_
  intro p hp
  simp only [List.mem_append] at hp ⊢
  rcases hp with h | h | h | h <;> simp [h]
theorem enc_use {x : Int} {t : Tok} {n : Nat} (B : Below A₀ base outer h₀) (F : Fr h₀ L s.heap m) (X : (hd.heap_39 w.params).In h₀) (N : News h₀ L s.heap big) (T : Top topProg loose mean mg mb h₀) (C1 : CodeHd base 116 112) (C2 : CodeHd base 70 66)
    (e : x = (n : Nat)) (h64 : n < 2 ^ 64) (hk : cs.kind = .function) (hd : dp + 30 < recursionLimit) (hu : un + 300 < cLine)
    (h : ∀ b t' h' tk', KBw.bInts b = rlp n → Fr h₀ L h' m → News h₀ L h' big → Q (.bytes b t') { s with heap := h', toks := tk' }) :
    wpAny (model PySem.Challenge.rw_vq0009_01.row.prog w) (ktrTop dp un gd cn cs L a ccd cl outer) (call (.ref 497) [.int x t]) Q E s := by
  refine enc w x n e h64 t big loose mean mg mb dp un gd cn cs a ccd cl outer A₀ base h₀ L m s Q E B F X N T C1 C2 hk hd hu ?_
  rintro v h' tk' news' ⟨b, t', rfl, hb, rfl⟩ F' N'
  exact h b t' h' tk' hb F' N'
theorem vsize_use {x : Int} {t : Tok} {n : Nat} (B : Below A₀ base outer h₀) (F : Fr h₀ L s.heap m) (X : (hd.heap_39 w.params).In h₀) (N : News h₀ L s.heap big) (T : Top topProg loose mean mg mb h₀) (C1 : CodeHd base 116 112) (C2 : CodeHd base 70 66)
    (e : x = (n : Nat)) (h64 : n < 2 ^ 64) (hk : cs.kind = .function) (hd : dp + 30 < recursionLimit) (hu : un + 300 < cLine)
    (h : ∀ t' h' tk', Fr h₀ L h' m → News h₀ L h' big → Q (.int ((pv n).length : Int) t') { s with heap := h', toks := tk' }) :
    wpAny (model PySem.Challenge.rw_vq0009_01.row.prog w) (ktrTop dp un gd cn cs L a ccd cl outer) (call (.ref 56) [.int x t]) Q E s := by
  refine vsize w x n e h64 t big loose mean mg mb dp un gd cn cs a ccd cl outer A₀ base h₀ L m s Q E B F X N T C1 C2 hk hd hu ?_
  rintro v h' tk' news' ⟨t', rfl, rfl⟩ F' N'
  exact h t' h' tk' F' N'
theorem item_use {b : Array UInt8} {tb : Tok} {x : Int} {tx : Tok} {pre post : List Int} {n : Nat} (B : Below A₀ base outer h₀) (F : Fr h₀ L s.heap m) (X : (Mine.hd.heap_39 w.params).In h₀) (N : News h₀ L s.heap big) (T : Top topProg loose mean mg mb h₀) (C1 : CodeHd base 116 112) (C2 : CodeHd base 70 66)
    (e : KBw.bInts b = pre ++ rlp n ++ post) (hz : (KBw.bInts b).length ≤ 16777216) (hx : x = (pre.length : Nat)) (h64 : n < 2 ^ 64) (hk : cs.kind = .function) (hd : dp + 30 < recursionLimit) (hu : un + 300 < cLine)
    (h : ∀ D l b1 b2 t1 t2 t3 k h' tk', KBw.bInts b1 = be n → KBw.bInts b2 = rlp n → AllLt l big → @LT.lt Nat _ l D → Fr h₀ L h' m → News h₀ L h' ((D, ⟨.type "tuple", none, .seq #[.bytes b1 t1, .ref l, .int ((pre.length + (rlp n).length : Nat) : Int) t3] 0, #[]⟩) :: (l, W.listOf #[.bytes b2 t2] k) :: big) → Q (.ref D) { s with heap := h', toks := tk' }) :
    wpAny (model PySem.Challenge.rw_vq0009_01.row.prog w) (ktrTop dp un gd cn cs L a ccd cl outer) (call (.ref 525) [.bytes b tb, .int x tx]) Q E s := by
  refine item w b tb x tx pre post n e hz hx h64 big loose mean mg mb dp un gd cn cs a ccd cl outer A₀ base h₀ L m s Q E B F X N T C1 C2 hk hd hu ?_
  rintro v h' tk' news' ⟨D, l, b1, b2, t1, t2, t3, k, rfl, h1, h2, h3, h4, rfl⟩ F' N'
  rw [← allLt_bnd] at h3
  exact h D l b1 b2 t1 t2 t3 k h' tk' h1 h2 h3 h4 F' N'
end

theorem TL.push {ts rest tl : List (Addr × Obj)} {e : Addr × Obj} (h : TL (ts ++ rest) tl) (he : ∀ q ∈ tl, q.1 ≠ e.1) : ∃ tl', TL ((ts ++ [e]) ++ rest) tl' ∧ ∀ p ∈ tl', p = e ∨ p ∈ tl := by
  obtain ⟨ledV, ledD, h1, h2, h3, h4, rfl⟩ := h
  have e1 : Off ledV [e] := fun p hp q hq => by rw [List.mem_singleton.mp hp]; exact (he q (List.mem_append_left _ hq)).symm
  have e2 : Off ledD [e] := fun p hp q hq => by rw [List.mem_singleton.mp hp]; exact (he q (List.mem_append_right _ (List.mem_append_left _ hq))).symm
  refine ⟨_, ⟨ledV, ledD, h1, h2, h3.left.app ((h3.right.left.app e1).app h3.right.right), h4.left.app ((h4.right.left.app e2).app h4.right.right), rfl⟩, ?_⟩
  intro p hp
  simp only [List.mem_append, List.mem_singleton] at hp ⊢
  rcases hp with h | h | (h | h) | h <;> simp [h]
theorem bInts_inj {b c : Array UInt8} (h : KBw.bInts b = KBw.bInts c) : b.toList = c.toList := by
  have h' : (b.toList.map fun x : UInt8 => ((x.toNat : Nat) : Int)) = c.toList.map fun x : UInt8 => ((x.toNat : Nat) : Int) := h
  have inj : ∀ (l l' : List UInt8), (l.map fun x : UInt8 => ((x.toNat : Nat) : Int)) = (l'.map fun x : UInt8 => ((x.toNat : Nat) : Int)) → l = l' := by
    intro l
    induction l with
    | nil => intro l' e; cases l' with
      | nil => rfl
      | cons _ _ => simp at e
    | cons x l ih => intro l' e; cases l' with
      | nil => simp at e
      | cons y l' =>
        simp only [List.map_cons, List.cons.injEq] at e
        have e3 : x = y := UInt8.toNat_inj.mp (by have := e.1; omega)
        rw [ih l' e.2, e3]
  exact inj _ _ h'
theorem pv_small {x : Nat} (h : x < 128) : pv x = [(x : Int)] := by rw [pv, dif_pos h]
theorem pv_more {f x : Nat} (h : 0 < f) (hx : x < 128) : pv (f * 128 + x) = [((128 + x : Nat) : Int)] ++ pv f := by
  rw [pv, dif_neg (by omega)]
  have e1 : (f * 128 + x) % 128 = x := by omega
  have e2 : (f * 128 + x) / 128 = f := by omega
  rw [e1, e2]; simp
theorem rlp_len {n : Nat} (h : n < 2 ^ 64) : (rlp n).length ≤ 9 := by
  unfold rlp
  split
  · simp
  · split
    · simp
    · have := be_len_bounds (n := n) (by assumption) h
      simp only [List.length_cons]; omega
theorem rlp_n0 {l d : Nat} (hl : l = 0) (hd : d < 128) (h0 : 0 < d) : rlp (l * 256 + d) = [(d : Int)] := by
  subst hl; simp only [Nat.zero_mul, Nat.zero_add]
  rw [rlp, if_neg (by omega), if_pos hd]
theorem rlp_n1 {l d : Nat} (hl : l = 0) (h0 : d = 0) : rlp (l * 256 + d) = [128] := by
  subst hl; subst h0; rfl
theorem rlp_n2 {l d : Nat} (hl : l = 0) (hd : 128 ≤ d) (h2 : d < 256) : rlp (l * 256 + d) = [129, (d : Int)] := by
  subst hl; simp only [Nat.zero_mul, Nat.zero_add]
  rw [rlp, if_neg (by omega), if_neg (by omega), be_small (by omega) h2]; rfl
theorem be_next {l d : Nat} (hl : 0 < l) (hd : d < 256) : be (l * 256 + d) = be l ++ [(d : Int)] := by
  rw [be_pos (by omega)]
  have e1 : (l * 256 + d) % 256 = d := by omega
  have e2 : (l * 256 + d) / 256 = l := by omega
  rw [e1, e2]
theorem rlp_n3 {l d : Nat} (h0 : 0 < l) (hl : l < 128) (hd : d < 256) : rlp (l * 256 + d) = [((129 + (rlp l).length : Nat) : Int)] ++ rlp l ++ [(d : Int)] := by
  have e : rlp l = [(l : Int)] := by rw [rlp, if_neg (by omega), if_pos hl]
  rw [e, rlp, if_neg (by omega), if_neg (by omega), be_next h0 hd, be_small (by omega) (by omega)]; rfl
theorem rlp_n4 {l d : Nat} (hl : 128 ≤ l) (hd : d < 256) : rlp (l * 256 + d) = [((129 + ((rlp l).drop 1).length : Nat) : Int)] ++ (rlp l).drop 1 ++ [(d : Int)] := by
  have e : (rlp l).drop 1 = be l := by rw [rlp, if_neg (by omega), if_neg (by omega)]; rfl
  rw [e, rlp, if_neg (by omega), if_neg (by omega), be_next (by omega) hd]
  simp; omega
section
variable {prog : Program} {w : World} {A : Around} {E : Value → Shared → Prop} {s : Shared} {t u : Tok} {Q : Value → Shared → Prop} {h₀ : Heap} {L : Addr} {m : PySem.Str → Option Value} {news : List (Addr × Obj)}
theorem neB {b c : Array UInt8} {ks ks' : List Int} (hb : KBw.bInts b = ks) (hc : KBw.bInts c = ks') (e : ks = ks') (h : Q (.bool false) s) : wpAny (model prog w) A (compareOp .NotEq (.bytes b t) (.bytes c u)) Q E s := by
  refine PySem.W.ne_bytes ?_
  have e2 : (b.toList != c.toList) = false := by rw [bInts_inj ((hb.trans e).trans hc.symm)]; simp
  rw [e2]; exact h
theorem neI {a b : Int} (e : a = b) (h : Q (.bool false) s) : wpAny (model prog w) A (compareOp .NotEq (.int a t) (.int b u)) Q E s := by
  refine PyProof.Rows.ne_int ?_
  subst e
  have e2 : (a != a) = false := by simp
  rw [e2]; exact h
theorem mulN {a m : Nat} {b : Int} (hb : b = (m : Nat)) (ha : a < 2 ^ 64) (hm : m < 2 ^ 64) (h : Q (.int ((a * m : Nat) : Int) s.toks) { s with toks := s.toks + 1 }) : wpAny (model prog w) A (binaryOp .Mult (.int (a : Int) t) (.int b u)) Q E s := by
  subst hb
  refine mul_int (hm := by mul_fits) ?_
  rw [← Int.natCast_mul]; exact h
theorem addN {a b : Int} {x y : Nat} (ha : a = (x : Nat)) (hb : b = (y : Nat)) (h : Q (.int ((x + y : Nat) : Int) s.toks) { s with toks := s.toks + 1 }) : wpAny (model prog w) A (binaryOp .Add (.int a t) (.int b u)) Q E s := by
  subst ha; subst hb
  refine add_int ?_
  rw [← Int.natCast_add]; exact h
theorem drop1_K {value slice : PySem.Expr} {b : Array UInt8} {ks : List Int} {tl : Tok} (hF : Fr h₀ L s.heap m) (hN : News h₀ L s.heap news) (hk : KBw.bInts b = ks) (hz : ks.length ≤ 16777216) (h1 : 1 ≤ ks.length)
    (h : ∀ b' h' t' k, KBw.bInts b' = ks.drop 1 → Fr h₀ L h' m → News h₀ L h' news → Q (.bytes b' t') { s with heap := h', toks := k })
    (hs : subscripted slice false (.bytes b t) (.ref s.heap.objs.size) = operate [.ref s.heap.objs.size, .bytes b t] (getItem (.bytes b t) (.ref s.heap.objs.size)) := by with_unfolding_all rfl)
    (ht : ∀ r, letTemporaryGo value (.bytes b t) r = pure () := by intro _; with_unfolding_all rfl) :
    wpAny (model prog w) A (subscriptTail value slice (.bytes b t) (.ref s.heap.objs.size)) Q E { s with heap := s.heap.push { cls := .type "slice", data := .fields #[.int 1 tl, .none, .none] } } := by
  refine KBc.slice_K (ks := ks) hF hN hk (.int 1 tl) .none hz ?_ hs ht
  intro h' t' k F' N' e
  refine h _ h' t' k ?_ F' N'
  rw [e]
  show List.take (ks.length - clipAt ks.length ((1 : Nat) : Int)) (List.drop (clipAt ks.length ((1 : Nat) : Int)) ks) = ks.drop 1
  rw [clipAt_nat, Nat.min_eq_left h1]
  exact List.take_of_length_le (by rw [List.length_drop]; omega)
end
def ItemAt (nv : List Value) (k : Int) (n : Nat) : Prop := ∃ t j, seqIndex? k nv.length = some j ∧ nv[j]? = some (.int (n : Int) t) ∧ -(2 ^ 63) ≤ k ∧ k < 2 ^ 63
theorem itemAt_at {nv : List Value} {ns : List Nat} {i : Nat} (hlen : nv.length = ns.length) (hI : ∀ (j m : Nat), ns[j]? = some m → ∃ t, nv[j]? = some (Value.int ((m : Nat) : Int) t)) (hns : ∀ n ∈ ns, n < 2 ^ 64) (hi : i < ns.length) (h6 : ns.length ≤ 6) : ∃ n, n < 2 ^ 64 ∧ ns[i]? = some n ∧ ItemAt nv (0 + (i : Int)) n := by
  have e := List.getElem?_eq_getElem hi
  obtain ⟨t, ht⟩ := hI i _ e
  refine ⟨ns[i], hns _ (List.getElem_mem hi), e, t, i, ?_, ht, by omega, by omega⟩
  rw [hlen]
  unfold seqIndex?
  have c1 : ¬ (0 + (i : Int) < 0) := by omega
  simp only [c1, if_false]
  rw [if_pos (by simp; omega)]
  simp
theorem itemAt_before {nv : List Value} {ns : List Nat} {i : Nat} (hlen : nv.length = ns.length) (hI : ∀ (j m : Nat), ns[j]? = some m → ∃ t, nv[j]? = some (Value.int ((m : Nat) : Int) t)) (hns : ∀ n ∈ ns, n < 2 ^ 64) (hi : i < ns.length) (h6 : ns.length ≤ 6) : ∃ n, n < 2 ^ 64 ∧ ItemAt nv (0 + (i : Int) - 1) n := by
  let j := if i = 0 then ns.length - 1 else i - 1
  have hj : j < ns.length := by dsimp only [j]; split <;> omega
  have e := List.getElem?_eq_getElem hj
  obtain ⟨t, ht⟩ := hI j _ e
  refine ⟨ns[j], hns _ (List.getElem_mem hj), t, j, ?_, ht, by omega, by omega⟩
  rw [hlen]
  unfold seqIndex?
  by_cases h0 : i = 0
  · have c1 : (0 + (i : Int) - 1 < 0) := by omega
    simp only [c1, if_true]
    rw [if_pos (by simp; omega)]
    simp only [j, h0, if_true]
    congr 1
    omega
  · have c1 : ¬ (0 + (i : Int) - 1 < 0) := by omega
    simp only [c1, if_false]
    rw [if_pos (by simp; omega)]
    simp only [j, h0, if_false]
    congr 1
    omega
section
variable {prog : Program} {w : World} {A : Around} {E : Value → Shared → Prop} {s : Shared} {t u : Tok} {Q : Value → Shared → Prop} {h₀ : Heap} {L : Addr} {m : PySem.Str → Option Value} {news : List (Addr × Obj)}
theorem itemAt_K {value slice : PySem.Expr} {l : Addr} {nv : List Value} {nn : Nat} {k : Int} {n : Nat} (N : News h₀ L s.heap news) (hm : (l, W.listOf nv.toArray nn) ∈ news) (hk : ItemAt nv k n) (h : ∀ t, Q (.int (n : Int) t) s)
    (hs : subscripted slice false (.ref l) (.int k u) = operate [.ref l, .int k u] (getItem (.ref l) (.int k u)) := by with_unfolding_all rfl) : wpAny (model prog w) A (subscriptTail value slice (.ref l) (.int k u)) Q E s := by
  obtain ⟨t, j, h1, h2, h3, h4⟩ := hk
  have hl : s.heap.IsList l nv.toArray := isListOf N hm
  by_cases h0 : k < 0
  · exact kde_neg hl h0 h3 h1 h2 (h t) hs
  · refine item_litK hl (by omega) h4 ?_ (h t) hs
    unfold seqIndex? at h1
    simp only [h0, if_false] at h1
    split at h1
    · have := Option.some.inj h1; rw [this]; exact h2
    · cases h1
theorem modK {a m : Nat} {b : Int} (hb : b = (m : Nat)) (hm : 0 < m) (h : Q (.int ((a % m : Nat) : Int) s.toks) { s with toks := s.toks + 1 }) : wpAny (model prog w) A (binaryOp .Mod (.int (a : Int) t) (.int b u)) Q E s := by
  subst hb
  refine AutoIntOps.mod_1 (by simp; omega) ?_
  have e : (a : Int).fmod (m : Int) = ((a % m : Nat) : Int) := by rw [Int.fmod_eq_emod_of_nonneg _ (by omega)]; rfl
  rw [e]
  exact h
end
end
local macro_rules | `(tactic| walk_at "vq pre") => `(tactic| (repeat (first | exact Pre.nil | apply Pre.cons)))
local macro_rules | `(tactic| walk_at "vq mem") => `(tactic| (repeat (first | exact List.Mem.head _ | refine List.Mem.tail _ ?_)))
local macro_rules | `(tactic| walk_at "vq apart") => `(tactic| first | exact bnd_ne (by omega) | (refine Sep.at (by assumption) ?_; walk_at "vq mem") | fail "vq apart")
local macro_rules | `(tactic| walk_at "vq sep") => `(tactic| (repeat (first | exact Sep.nil | refine Sep.cons (by walk_at "vq apart") ?_)))
local macro_rules | `(tactic| walk_at "vq cx") => `(tactic| first | assumption | exact Nat.lt_of_lt_of_le (by assumption) (by decide) | fail "vq cx")
local macro_rules | `(tactic| walk_at "call ref") => `(tactic| (k_here; (with_reducible show wpAny _ _ (call (Value.ref 71) [Value.int _ _]) _ _ _); (with_reducible rename TL _ _ => tl8); k_dflt (refine' vb_use (cl := []) ?B ?F ?X ?N ?T ?C1 ?C2 tl8 ?P ?S ?e ?h64 ?hk ?hd ?hu ?_; (case B => k_asm); (case F => k_asm); (case X => k_asm); (case N => k_asm); (case T => k_asm); (case C1 => assumption); (case C2 => assumption); (case P => walk_at "vq pre"); (case S => walk_at "vq sep"); (case e => rfl); (case h64 => omega); (case hk => rfl); (case hd => decide); (case hu => decide)); (clear tl8); intro b' t' h' tk' tl' hb' TL' S' F' N'; (try simp only [List.cons_append, List.nil_append] at N'); (try dsimp only); (try k_sweep)))
local macro_rules | `(tactic| walk_at "call ref") => `(tactic| (k_here; (with_reducible show wpAny _ _ (call (Value.ref 497) [Value.int _ _]) _ _ _); k_dflt (refine' enc_use (cl := []) ?B ?F ?X ?N ?T ?C1 ?C2 ?e ?h64 ?hk ?hd ?hu ?_; (case B => k_asm); (case F => k_asm); (case X => k_asm); (case N => k_asm); (case T => k_asm); (case C1 => assumption); (case C2 => assumption); (case e => rfl); (case h64 => omega); (case hk => rfl); (case hd => decide); (case hu => decide)); intro b' t' h' tk' hb' F' N'; (try dsimp only); (try k_sweep)))
local macro_rules | `(tactic| walk_at "call ref") => `(tactic| (k_here; (with_reducible show wpAny _ _ (call (Value.ref 56) [Value.int _ _]) _ _ _); k_dflt (refine' vsize_use (cl := []) ?B ?F ?X ?N ?T ?C1 ?C2 ?e ?h64 ?hk ?hd ?hu ?_; (case B => k_asm); (case F => k_asm); (case X => k_asm); (case N => k_asm); (case T => k_asm); (case C1 => assumption); (case C2 => assumption); (case e => rfl); (case h64 => omega); (case hk => rfl); (case hd => decide); (case hu => decide)); intro t' h' tk' F' N'; (try dsimp only); (try k_sweep)))
local macro_rules | `(tactic| walk_at "vq eqs") => `(tactic| first | rfl | exact pv_small (by omega) | exact pv_more (by omega) (by omega) | exact rlp_n0 (by omega) (by omega) (by omega) | exact rlp_n1 (by omega) (by omega) | exact rlp_n2 (by omega) (by omega) (by omega) | exact rlp_n3 (by omega) (by omega) (by omega) | exact rlp_n4 (by omega) (by omega) | fail "vq eqs")
local macro_rules | `(tactic| walk_at "compareOp NotEq bytes bytes") => `(tactic| (k_here; k_dflt (refine' neB ?a ?b ?e ?_; (case a => kba_ints); (case b => kba_ints); (case e => walk_at "vq eqs"))))
local macro_rules | `(tactic| walk_at "binaryOp Mult int int") => `(tactic| (k_here; (with_reducible first | refine mulN (m := 128) rfl (by omega) (by decide) ?_ | refine mulN (m := 256) rfl (by omega) (by decide) ?_)))
local macro_rules | `(tactic| walk_at "binaryOp Add int int") => `(tactic| (k_here; (with_reducible first | refine addN rfl rfl ?_ | refine addN (x := 128) rfl rfl ?_ | refine addN (x := 129) rfl rfl ?_)))
local macro_rules | `(tactic| walk_at "subscriptTail") => `(tactic| (k_here; k_dflt (refine' drop1_K (s := ⟨_, _, _, _, _⟩) ?F ?N ?a ?b ?c ?_; (case F => k_asm); (case N => k_asm); (case a => assumption); (case b => omega); (case c => omega)); intro b' h' t' k' hb' F' N'; (try k_sweep)))
local macro_rules | `(tactic| walk_at "compareOp NotEq int int") => `(tactic| (k_here; (with_reducible refine neI rfl ?_)))
local macro_rules | `(tactic| k_all) => `(tactic| first | assumption | exact bnd_ne (by omega) | walk_at "vq apart")
local macro_rules | `(tactic| walk_at "subscriptTail Name Name ref int") => `(tactic| (k_here; k_dflt (refine' itemAt_K ?N ?m ?k ?_; (case N => k_asm); (case m => k_mem); (case k => assumption)); intro tc'))
local macro_rules | `(tactic| walk_at "subscriptTail Name BinOp ref int") => `(tactic| (k_here; k_dflt (refine' itemAt_K ?N ?m ?k ?_; (case N => k_asm); (case m => k_mem); (case k => assumption)); intro tc'))
local macro_rules | `(tactic| walk_at "binaryOp Mod int int") => `(tactic| (k_here; (with_reducible first | refine modK (m := 144115188075855872) rfl (by decide) ?_ | refine modK (m := 72057594037927936) rfl (by decide) ?_ | refine modK (m := 256) rfl (by decide) ?_ | refine modK (m := 128) rfl (by decide) ?_)))
section
def ahd (l : Nat) : List Int := if l = 0 then [] else if l < 128 then rlp l else (rlp l).drop 1
theorem ahd0 {l : Nat} (h : l = 0) : KBw.bInts #[] = ahd l := by subst h; rfl
theorem ahd1 {l : Nat} {b : Array UInt8} (h0 : l ≠ 0) (h : l < 128) (e : KBw.bInts b = rlp l) : KBw.bInts b = ahd l := by rw [e, ahd, if_neg h0, if_pos h]
theorem ahd2 {l : Nat} {b : Array UInt8} (h : 128 ≤ l) (e : KBw.bInts b = (rlp l).drop 1) : KBw.bInts b = ahd l := by rw [e, ahd, if_neg (by omega), if_neg (by omega)]
theorem ahd_len {l : Nat} (h : l < 2 ^ 64) : (ahd l).length ≤ 16 := by
  have := rlp_len h
  unfold ahd; split
  · simp
  · split
    · omega
    · rw [List.length_drop]; omega
theorem rlp_nx {l d : Nat} (hd : d < 256) (h : 0 < l ∨ 128 ≤ d) : rlp (l * 256 + d) = [((129 + (ahd l).length : Nat) : Int)] ++ ahd l ++ [(d : Int)] := by
  unfold ahd
  by_cases h0 : l = 0
  · rw [if_pos h0, rlp_n2 h0 (by omega) hd]; rfl
  · rw [if_neg h0]
    by_cases h1 : l < 128
    · rw [if_pos h1]; exact rlp_n3 (by omega) h1 hd
    · rw [if_neg h1]; exact rlp_n4 (by omega) hd
set_option maxRecDepth 100000 in
set_option maxHeartbeats 8000000 in
theorem t2C1 (w : World) (loose : List Str) (mean : ExcName → Option Value) (mg mb : Str → Option Value) (h₀ : Heap) (L fa : Addr) (cd : Value) (E : Value → Shared → Prop)
    (B : Below callerA h₀ [] h₀) (X : (hd.heap_39 w.params).In h₀) (T : Top topProg loose mean mg mb h₀) (C1 : CodeHd h₀ 116 112) (C2 : CodeHd h₀ 70 66)
    (s : Shared) (m : Str → Option Value) (big : List (Addr × Obj)) (l : Nat) (tl : Tok) (h64 : l < 2 ^ 64) (hm : m (Str.ofString "less") = some (.int (l : Int) tl)) (F : Fr h₀ L s.heap m) (N : News h₀ L s.heap big) :
    wpAny (model PySem.Challenge.rw_vq0009_01.row.prog w) (callerA.deeper (envOf (PySem.Str.ofString "law") (by_elab lawScopeE) L fa cd)) (eval (by_elab lawSubValueE 3 4) (envOf (PySem.Str.ofString "law") (by_elab lawScopeE) L fa cd)) (fun v s' => ∃ b t h' tk, v = .bytes b t ∧ s' = { s with heap := h', toks := tk } ∧ KBw.bInts b = ahd l ∧ Fr h₀ L h' m ∧ News h₀ L h' big) E s := by
  revert X
  run_tac afresh
  k_fill
  intro X
  have em : m = kstB m [(Str.ofString "less", .int (l : Int) tl)] := (kstB_self (by intro p hp; rw [List.mem_singleton.mp hp]; exact hm)).symm
  have hw2 : (rlp l).length ≤ 16 := by have := rlp_len h64; omega
  have hw3 : 1 ≤ (rlp l).length := by
    unfold rlp; split
    · simp
    · split <;> simp
  generalize hR : (fun (v : Value) (s' : Shared) => ∃ b t h' tk, v = .bytes b t ∧ s' = { s with heap := h', toks := tk } ∧ KBw.bInts b = ahd l ∧ Fr h₀ L h' m ∧ News h₀ L h' big) = R
  have hF : Fr h₀ L s.heap (kstB m [(Str.ofString "less", .int (l : Int) tl)]) := em ▸ F
  simp only [kstB] at hF
  clear F
  k_steps
  all_goals (
    subst hR
    rename Fr h₀ L _ _ => F9
    rename News h₀ L _ _ => N9
    refine ⟨_, _, _, _, rfl, rfl, ?_, by rw [em]; exact F9, cb_drop N9 (by walk_at "vq tail")⟩
    first | exact ahd0 (by omega) | exact ahd1 (by omega) (by omega) (by assumption) | exact ahd2 (by omega) (by assumption))
end
section
local macro_rules | `(tactic| walk_at "vq eqs") => `(tactic| first | rfl | exact rlp_n0 (by omega) (by omega) (by omega) | exact rlp_n1 (by omega) (by omega) | exact rlp_nx (by omega) (.inl (by omega)) | exact rlp_nx (by omega) (.inr (by omega)) | fail "vq eqs")
set_option maxRecDepth 100000 in
set_option maxHeartbeats 8000000 in
theorem t2C2 (w : World) (loose : List Str) (mean : ExcName → Option Value) (mg mb : Str → Option Value) (h₀ : Heap) (L fa : Addr) (cd : Value) (E : Value → Shared → Prop)
    (B : Below callerA h₀ [] h₀) (X : (hd.heap_39 w.params).In h₀) (T : Top topProg loose mean mg mb h₀) (C1 : CodeHd h₀ 116 112) (C2 : CodeHd h₀ 70 66)
    (s : Shared) (m : Str → Option Value) (big : List (Addr × Obj)) (l d : Nat) (tl td ta : Tok) (ab : Array UInt8) (h64 : l < 2 ^ 56) (hd6 : d < 256) (hab : KBw.bInts ab = ahd l) (hm : m (Str.ofString "less") = some (.int (l : Int) tl)) (hm2 : m (Str.ofString "digit") = some (.int (d : Int) td)) (hm3 : m (Str.ofString "ahead") = some (.bytes ab ta)) (F : Fr h₀ L s.heap m) (N : News h₀ L s.heap big) :
    wpAny (model PySem.Challenge.rw_vq0009_01.row.prog w) (callerA.deeper (envOf (PySem.Str.ofString "law") (by_elab lawScopeE) L fa cd)) (exec (by_elab lawSubE 3 5) (envOf (PySem.Str.ofString "law") (by_elab lawScopeE) L fa cd)) (fun f s' => f = .next ∧ ∃ h' tk, s' = { s with heap := h', toks := tk } ∧ Fr h₀ L h' m ∧ News h₀ L h' big) E s := by
  revert X
  run_tac afresh
  k_fill
  intro X
  have em : m = kstB m [(Str.ofString "less", .int (l : Int) tl), (Str.ofString "digit", .int (d : Int) td), (Str.ofString "ahead", .bytes ab ta)] := (kstB_self (by
    intro p hp
    simp only [List.mem_cons, List.not_mem_nil, or_false] at hp
    rcases hp with rfl | rfl | rfl <;> assumption)).symm
  have hw2 : (rlp (l * 256 + d)).length ≤ 16 := by have := rlp_len (n := l * 256 + d) (by omega); omega
  have hw3 : (ahd l).length ≤ 16 := ahd_len (by omega)
  generalize hR : (fun (f : Flow) (s' : Shared) => f = .next ∧ ∃ h' tk, s' = { s with heap := h', toks := tk } ∧ Fr h₀ L h' m ∧ News h₀ L h' big) = R
  have hF : Fr h₀ L s.heap (kstB m [(Str.ofString "less", .int (l : Int) tl), (Str.ofString "digit", .int (d : Int) td), (Str.ofString "ahead", .bytes ab ta)]) := em ▸ F
  simp only [kstB] at hF
  clear F
  k_steps
  all_goals (
    subst hR
    rename Fr h₀ L _ _ => F9
    rename News h₀ L _ _ => N9
    exact ⟨rfl, _, _, rfl, by rw [em]; exact F9, cb_drop N9 (by walk_at "vq tail")⟩)
end
section
theorem be_head {n : Nat} (x : Nat) : List.take x (be n) ≠ [0] := by
  have key : ∀ n : Nat, n ≠ 0 → ∃ a r, be n = a :: r ∧ 0 < a := by
    intro n
    induction n using Nat.strongRecOn with
    | _ n ih =>
      intro h
      rw [be_pos h]
      by_cases h2 : n / 256 = 0
      · rw [h2, be_zero]; exact ⟨_, _, rfl, by omega⟩
      · obtain ⟨a, r, e, h3⟩ := ih (n / 256) (by omega) h2
        rw [e]; exact ⟨a, _, rfl, h3⟩
  intro h
  by_cases h0 : n = 0
  · subst h0; rw [be_zero] at h; simp at h
  · obtain ⟨a, r, e, h3⟩ := key n h0
    rw [e] at h
    cases x with
    | zero => simp at h
    | succ x => simp only [List.take_succ_cons, List.cons.injEq] at h; omega
theorem eqB_ne {prog : Program} {w : World} {A : Around} {E : Value → Shared → Prop} {s : Shared} {t u : Tok} {Q : Value → Shared → Prop} {b c : Array UInt8} {ks ks' : List Int} (hb : KBw.bInts b = ks) (hc : KBw.bInts c = ks') (e : ks ≠ ks') (h : Q (.bool false) s) : wpAny (model prog w) A (compareOp .Eq (.bytes b t) (.bytes c u)) Q E s := by
  refine PySem.W.eq_bytes ?_
  have e2 : (b.toList == c.toList) = false := by
    rw [beq_eq_false_iff_ne]
    intro h
    exact e (by rw [← hb, ← hc, Array.toList_inj.mp h])
  rw [e2]; exact h
local macro_rules | `(tactic| walk_at "compareOp Eq bytes bytes") => `(tactic| (k_here; k_dflt (refine' eqB_ne ?a ?b ?e ?_; (case a => assumption); (case b => exact (rfl : KBw.bInts #[0] = [0])); (case e => exact be_head _))))
theorem be_foldl : ∀ n : Nat, (be n).foldl (fun a k => a * 256 + k) 0 = (n : Int) := by
  intro n
  induction n using Nat.strongRecOn with
  | _ n ih =>
    by_cases h : n = 0
    · subst h; rw [be_zero]; rfl
    · rw [be_pos h, List.foldl_append, ih (n / 256) (by omega)]
      simp only [List.foldl_cons, List.foldl_nil]
      omega
theorem be_value (n : Nat) : KFB.value (be n) = (n : Int) := be_foldl n
theorem be_nil {n : Nat} (h : ¬ 0 < (((be n).length : Nat) : Int)) : (0 * 256 + ((UInt8.toNat 0 : Nat) : Int)) = (n : Int) := by
  have h0 : n = 0 := by
    by_cases h0 : n = 0
    · exact h0
    · rw [be_pos h0] at h
      simp only [List.length_append, List.length_cons, List.length_nil] at h
      omega
  subst h0; rfl
theorem deser_end {x : Int} {n : Nat} {news : List (Addr × Obj)} {h₀ h' : Heap} {L : Addr} {m : Str → Option Value} {s : Shared} {Q : Value → Shared → Prop} {t : Tok} {tk : Nat}
    (hret : ∀ v h' tk' news', (∃ t', v = .int (n : Int) t' ∧ news' = news) → Fr h₀ L h' m → News h₀ L h' news' → Q v { s with heap := h', toks := tk' })
    (e : x = (n : Int)) (F : Fr h₀ L h' m) (N : News h₀ L h' news) : Q (.int x t) { s with heap := h', toks := tk } := by
  subst e
  exact hret _ _ _ _ ⟨t, rfl, rfl⟩ F N
set_option maxRecDepth 100000 in
set_option maxHeartbeats 8000000 in
theorem deser (w : World) (b : Array UInt8) (n : Nat) (e : KBw.bInts b = be n) (h64 : n < 2 ^ 64) (t : Tok) (news : List (Addr × Obj)) :
    Ct w 323 [.ref 332, .bytes b t] news (fun v ns => ∃ t', v = .int (n : Int) t' ∧ ns = news) := by
  have hbe : (be n).length ≤ 8 := by
    by_cases h0 : n = 0
    · subst h0; rw [be_zero]; simp
    · exact (be_len_bounds h0 h64).2
  unfold Ct
  run_tac afresh
  k_fill
  intro loose mean mg mb dp un gd cn cs a ccd cl outer A₀ base h₀ L m s Q E B F X N T C1 C2 hk hd hu hret
  refine wpAny_call ?_
  k_dflt (walk_at "vq enter")
  k_steps
  all_goals (
    rename News h₀ L _ _ => N7
    refine deser_end hret ?_ (by assumption) (cb_drop N7 (by walk_at "vq tail"))
    first | exact be_foldl n | exact be_nil (by assumption))
theorem ser_zero {n : Nat} (h : ((n : Nat) : Int) = 0) : KBw.bInts #[] = be n := by
  have : n = 0 := by omega
  subst this; rw [be_zero]; rfl
set_option maxRecDepth 100000 in
set_option maxHeartbeats 8000000 in
theorem ser (w : World) (x : Int) (n : Nat) (e : x = n) (h64 : n < 2 ^ 64) (t : Tok) (news : List (Addr × Obj)) :
    Ct w 316 [.ref 332, .int x t] news (fun v ns => ∃ b t', v = .bytes b t' ∧ KBw.bInts b = be n ∧ ns = news) := by
  subst e
  unfold Ct
  run_tac afresh
  k_fill
  intro loose mean mg mb dp un gd cn cs a ccd cl outer A₀ base h₀ L m s Q E B F X N T C1 C2 hk hd hu hret
  refine wpAny_call ?_
  k_dflt (walk_at "vq enter")
  k_steps
  all_goals (
    rename News h₀ L _ _ => N7
    refine hret _ _ _ _ ⟨_, _, rfl, ?_, rfl⟩ (by assumption) (cb_drop N7 (by walk_at "vq tail"))
    first | exact ser_zero (by assumption) | assumption)
section
variable {w : World} {loose : List Str} {mean : ExcName → Option Value} {mg mb : Str → Option Value} {dp un : Nat} {gd : Option (List Code)} {cn : Str} {cs : Scope} {a : Addr} {ccd : Value} {cl : List (Str × Addr)} {outer : List Env} {A₀ : Around} {base h₀ : Heap} {L : Addr} {m : Str → Option Value} {s : Shared} {Q E : Value → Shared → Prop} {big : List (Addr × Obj)}
theorem ser_use {x : Int} {t : Tok} {n : Nat} (B : Below A₀ base outer h₀) (F : Fr h₀ L s.heap m) (X : (hd.heap_39 w.params).In h₀) (N : News h₀ L s.heap big) (T : Top topProg loose mean mg mb h₀) (C1 : CodeHd base 116 112) (C2 : CodeHd base 70 66)
    (e : x = (n : Nat)) (h64 : n < 2 ^ 64) (hk : cs.kind = .function) (hd : dp + 30 < recursionLimit) (hu : un + 300 < cLine)
    (h : ∀ b t' h' tk', KBw.bInts b = be n → Fr h₀ L h' m → News h₀ L h' big → Q (.bytes b t') { s with heap := h', toks := tk' }) :
    wpAny (model PySem.Challenge.rw_vq0009_01.row.prog w) (ktrTop dp un gd cn cs L a ccd cl outer) (call (.ref 316) [.ref 332, .int x t]) Q E s := by
  refine ser w x n e h64 t big loose mean mg mb dp un gd cn cs a ccd cl outer A₀ base h₀ L m s Q E B F X N T C1 C2 hk hd hu ?_
  rintro v h' tk' news' ⟨b, t', rfl, hb, rfl⟩ F' N'
  exact h b t' h' tk' hb F' N'
theorem deser_use {b : Array UInt8} {t : Tok} {n : Nat} (B : Below A₀ base outer h₀) (F : Fr h₀ L s.heap m) (X : (hd.heap_39 w.params).In h₀) (N : News h₀ L s.heap big) (T : Top topProg loose mean mg mb h₀) (C1 : CodeHd base 116 112) (C2 : CodeHd base 70 66)
    (e : KBw.bInts b = be n) (h64 : n < 2 ^ 64) (hk : cs.kind = .function) (hd : dp + 30 < recursionLimit) (hu : un + 300 < cLine)
    (h : ∀ t' h' tk', Fr h₀ L h' m → News h₀ L h' big → Q (.int (n : Int) t') { s with heap := h', toks := tk' }) :
    wpAny (model PySem.Challenge.rw_vq0009_01.row.prog w) (ktrTop dp un gd cn cs L a ccd cl outer) (call (.ref 323) [.ref 332, .bytes b t]) Q E s := by
  refine deser w b n e h64 t big loose mean mg mb dp un gd cn cs a ccd cl outer A₀ base h₀ L m s Q E B F X N T C1 C2 hk hd hu ?_
  rintro v h' tk' news' ⟨t', rfl, rfl⟩ F' N'
  exact h t' h' tk' F' N'
end
end
local macro_rules | `(tactic| walk_at "call ref") => `(tactic| (k_here; (with_reducible show wpAny _ _ (call (Value.ref 316) [Value.ref _, Value.int _ _]) _ _ _); k_dflt (refine' ser_use (cl := []) ?B ?F ?X ?N ?T ?C1 ?C2 ?e ?h64 ?hk ?hd ?hu ?_; (case B => k_asm); (case F => k_asm); (case X => k_asm); (case N => k_asm); (case T => k_asm); (case C1 => assumption); (case C2 => assumption); (case e => rfl); (case h64 => omega); (case hk => rfl); (case hd => decide); (case hu => decide)); intro b' t' h' tk' hb' F' N'; (try dsimp only); (try k_sweep)))
local macro_rules | `(tactic| walk_at "call ref") => `(tactic| (k_here; (with_reducible show wpAny _ _ (call (Value.ref 323) [Value.ref _, Value.bytes _ _]) _ _ _); k_dflt (refine' deser_use (cl := []) ?B ?F ?X ?N ?T ?C1 ?C2 ?e ?h64 ?hk ?hd ?hu ?_; (case e => assumption); (case B => k_asm); (case F => k_asm); (case X => k_asm); (case N => k_asm); (case T => k_asm); (case C1 => assumption); (case C2 => assumption); (case h64 => omega); (case hk => rfl); (case hd => decide); (case hu => decide)); intro t' h' tk' F' N'; (try dsimp only); (try k_sweep)))
section
set_option maxRecDepth 100000 in
set_option maxHeartbeats 8000000 in
theorem t2B (w : World) (loose : List Str) (mean : ExcName → Option Value) (mg mb : Str → Option Value) (h₀ : Heap) (L fa : Addr) (cd : Value) (E : Value → Shared → Prop)
    (B : Below callerA h₀ [] h₀) (X : (hd.heap_39 w.params).In h₀) (T : Top topProg loose mean mg mb h₀) (C1 : CodeHd h₀ 116 112) (C2 : CodeHd h₀ 70 66)
    (s : Shared) (m : Str → Option Value) (I rl nl : Addr) (o1 o2 o3 : Obj) (tl rest : List (Addr × Obj)) (f d : Nat) (tf td : Tok) (hTL : TL rest tl) (hS : Sep [I, rl, nl] tl) (h64 : f < 2 ^ 57) (hd6 : d < 256) (hm : m (Str.ofString "fewer") = some (.int (f : Int) tf)) (hm2 : m (Str.ofString "digit") = some (.int (d : Int) td)) (F : Fr h₀ L s.heap m) (N : News h₀ L s.heap ((I, o1) :: (rl, o2) :: (nl, o3) :: tl)) :
    wpAny (model PySem.Challenge.rw_vq0009_01.row.prog w) (callerA.deeper (envOf (PySem.Str.ofString "law") (by_elab lawScopeE) L fa cd)) (exec (by_elab lawSubE 3 3) (envOf (PySem.Str.ofString "law") (by_elab lawScopeE) L fa cd)) (fun f s' => f = .next ∧ ∃ h' tk tl', s' = { s with heap := h', toks := tk } ∧ TL rest tl' ∧ Sep [I, rl, nl] tl' ∧ Fr h₀ L h' m ∧ News h₀ L h' ((I, o1) :: (rl, o2) :: (nl, o3) :: tl')) E s := by
  revert X
  run_tac afresh
  k_fill
  intro X
  have em : m = kstB m [(Str.ofString "fewer", .int (f : Int) tf), (Str.ofString "digit", .int (d : Int) td)] := (kstB_self (by
    intro p hp
    simp only [List.mem_cons, List.not_mem_nil, or_false] at hp
    rcases hp with rfl | rfl <;> assumption)).symm
  have hv2 : (pv (d % 128)).length ≤ 16 := by have := pv_len 9 (d % 128) (by omega); omega
  have hv3 : (pv f).length ≤ 16 := by have := pv_len 9 f (by omega); omega
  generalize hR : (fun (f : Flow) (s' : Shared) => f = .next ∧ ∃ h' tk tl', s' = { s with heap := h', toks := tk } ∧ TL rest tl' ∧ Sep [I, rl, nl] tl' ∧ Fr h₀ L h' m ∧ News h₀ L h' ((I, o1) :: (rl, o2) :: (nl, o3) :: tl')) = R
  have hF : Fr h₀ L s.heap (kstB m [(Str.ofString "fewer", .int (f : Int) tf), (Str.ofString "digit", .int (d : Int) td)]) := em ▸ F
  simp only [kstB] at hF
  clear F
  k_steps
  all_goals (
    subst hR
    rename Fr h₀ L _ _ => F9
    rename News h₀ L _ _ => N9
    rename TL _ _ => T9
    refine ⟨rfl, _, _, _, rfl, T9, ?_, by rw [em]; exact F9, cb_drop N9 (by walk_at "vq tail")⟩
    walk_at "vq sep")
end
section
structure Row where
  n : Nat
  D : Addr
  t : Tok
  b1 : Array UInt8
  t1 : Tok
  b2 : Array UInt8
  t2 : Tok
structure Row.Ok (r : Row) : Prop where
  lt : r.n < 2 ^ 64
  one : KBw.bInts r.b1 = pv r.n
  two : KBw.bInts r.b2 = rlp r.n
def Row.tup (r : Row) : Addr × Obj := (r.D, ⟨.type "tuple", none, .seq #[.int (r.n : Int) r.t, .bytes r.b1 r.t1, .bytes r.b2 r.t2] 0, #[]⟩)
def Row.ref (r : Row) : Value := .ref r.D
def Row.octs (r : Row) : List Int := pv r.n ++ rlp r.n
structure St2 where
  rows : List Row
  k : Nat
  b : Array UInt8
  tb : Tok
  tl : List (Addr × Obj)
abbrev Led2 (rl nl : Addr) (nv : List Value) (nn : Nat) (rest : List (Addr × Obj)) (c : St2) : List (Addr × Obj) := (rl, W.listOf (c.rows.map Row.ref).toArray c.k) :: (nl, W.listOf nv.toArray nn) :: c.tl
abbrev ps2 (rl nl : Addr) (c : St2) : List (Str × Value) := [(Str.ofString "numbers", .ref nl), (Str.ofString "rows", .ref rl), (Str.ofString "stream", .bytes c.b c.tb)]
def P2 (rl nl : Addr) (ns : List Nat) (rest : List (Addr × Obj)) (i : Nat) (c : St2) : Prop :=
  c.rows.length = i ∧ (c.rows.map Row.n) = ns.take i ∧ (∀ r ∈ c.rows, r.Ok) ∧ TL (c.rows.map Row.tup ++ rest) c.tl ∧ KBw.bInts c.b = (c.rows.map Row.octs).flatten ∧ Sep [rl, nl] c.tl
theorem rows_len {rows : List Row} (h : ∀ r ∈ rows, r.Ok) : ((rows.map Row.octs).flatten).length ≤ 19 * rows.length := by
  induction rows with
  | nil => simp
  | cons r rows ih =>
    have h1 := ih fun x hx => h x (.tail _ hx)
    have h2 := h r (.head _)
    have h3 := pv_len 9 r.n (Nat.lt_of_lt_of_le h2.lt (by decide))
    have h4 := rlp_len h2.lt
    simp only [List.map_cons, List.flatten_cons, List.length_append, List.length_cons, Row.octs]
    omega
theorem turn2_end {rl nl I : Addr} {oI : Obj} {nv : List Value} {nn k i : Nat} {ns : List Nat} {rest tl big : List (Addr × Obj)} {c : St2} {h₀ h' : Heap} {L : Addr} {m' : Str → Option Value} {s : Shared} {tk : Nat} {b : Array UInt8} {tb : Tok} (r : Row)
    (F : Fr h₀ L h' m') (N : News h₀ L h' big) (hT : TL (c.rows.map Row.tup ++ rest) tl) (hS : Sep [I, rl, nl] tl) (m4 : r.tup ∈ big) (hr : r.Ok) (hD : ∀ q ∈ tl, q.1 ≠ r.D) (hDI : I ≠ r.D ∧ rl ≠ r.D ∧ nl ≠ r.D) (q1 : rl ≠ I) (q2 : nl ≠ I)
    (m1 : (I, oI) ∈ big) (m2 : (rl, W.listOf ((c.rows.map Row.ref).toArray.push (.ref r.D)) k) ∈ big) (m3 : (nl, W.listOf nv.toArray nn) ∈ big) (m5 : ∀ p ∈ tl, p ∈ big)
    (k1 : m' (Str.ofString "numbers") = some (.ref nl)) (k2 : m' (Str.ofString "rows") = some (.ref rl)) (k3 : m' (Str.ofString "stream") = some (.bytes b tb)) (hb : KBw.bInts b = (c.rows.map Row.octs).flatten ++ pv r.n ++ rlp r.n)
    (p1 : c.rows.length = i) (p2 : c.rows.map Row.n = ns.take i) (p3 : ∀ r ∈ c.rows, r.Ok) (hn : ns[i]? = some r.n) :
    TurnEnd h₀ L (I, oI) (Led2 rl nl nv nn rest) (ps2 rl nl) (P2 rl nl ns rest) (i + 1) s .next { s with heap := h', toks := tk } := by
  obtain ⟨tl2, T2, hsub⟩ := TL.push (e := r.tup) hT hD
  have S2 : Sep [I, rl, nl] tl2 := by
    intro a ha q hq
    rcases hsub q hq with rfl | h
    · simp only [List.mem_cons, List.not_mem_nil, or_false] at ha
      rcases ha with rfl | rfl | rfl
      · exact hDI.1.symm
      · exact hDI.2.1.symm
      · exact hDI.2.2.symm
    · exact hS a ha q h
  refine TurnEnd.intro ⟨c.rows ++ [r], k, b, tb, tl2⟩ F N ?_ m1 ?_ ?_ ⟨?_, ?_, ?_, ?_, ?_, ?_⟩
  · intro p hp
    simp only [Led2, List.mem_cons] at hp
    rcases hp with rfl | rfl | hp
    · have e : ((c.rows ++ [r]).map Row.ref).toArray = (c.rows.map Row.ref).toArray.push (.ref r.D) := by simp [Row.ref]
      rw [e]; exact m2
    · exact m3
    · rcases hsub p hp with rfl | h
      · exact m4
      · exact m5 p h
  · intro p hp
    simp only [Led2, List.mem_cons] at hp
    rcases hp with rfl | rfl | hp
    · exact q1
    · exact q2
    · exact S2.at (.head _) p hp
  · intro p hp
    simp only [ps2, List.mem_cons, List.not_mem_nil, or_false] at hp
    rcases hp with rfl | rfl | rfl
    · exact k1
    · exact k2
    · exact k3
  · simp [p1]
  · rw [List.map_append, p2, List.take_add_one, hn]; rfl
  · intro x hx
    rcases List.mem_append.mp hx with h | h
    · exact p3 x h
    · rw [List.mem_singleton.mp h]; exact hr
  · rw [List.map_append]; exact T2
  · rw [List.map_append, List.flatten_append, hb]; simp [Row.octs]
  · exact fun a ha => S2 a (.tail _ ha)
local macro_rules | `(tactic| walk_at "exec If") => `(tactic| ((run_tac atLine 368); refine Stop.on ?_))
local macro_rules | `(tactic| walk_at "exec If") => `(tactic| ((run_tac atLine 371); refine Stop.on ?_))
local macro_rules | `(tactic| walk_at "eval IfExp") => `(tactic| ((run_tac atLine 370); refine Stop.on ?_))
set_option maxRecDepth 100000 in
set_option maxHeartbeats 8000000 in
theorem turn2 (w : World) (loose : List Str) (mean : ExcName → Option Value) (mg mb : Str → Option Value) (h₀ : Heap) (L fa : Addr) (cd : Value) (rl nl : Addr) (nv : List Value) (nn : Nat) (ns : List Nat) (rest : List (Addr × Obj)) (E : Value → Shared → Prop)
    (B : Below callerA h₀ [] h₀) (X : (hd.heap_39 w.params).In h₀) (T : Top topProg loose mean mg mb h₀) (C1 : CodeHd h₀ 116 112) (C2 : CodeHd h₀ 70 66) (hrl : rl ≠ nl) (hlen : nv.length = ns.length) (hI : ∀ (j m : Nat), ns[j]? = some m → ∃ t, nv[j]? = some (Value.int ((m : Nat) : Int) t)) (hns : ∀ n ∈ ns, n < 2 ^ 64)
    (i : Nat) (t : Tok) (c : St2) (u : Str → Option Value) (s₁ : Shared) (I : Addr) (oI : Obj) (hi : i < ns.length) (h6 : ns.length ≤ 6) (hP : P2 rl nl ns rest i c) (hoff : ∀ p ∈ Led2 rl nl nv nn rest c, p.1 ≠ I) (F : Fr h₀ L s₁.heap (kstB u (ps2 rl nl c))) (N : News h₀ L s₁.heap ((I, oI) :: Led2 rl nl nv nn rest c)) :
    wpAny (model PySem.Challenge.rw_vq0009_01.row.prog w) (callerA.deeper (envOf (PySem.Str.ofString "law") (by_elab lawScopeE) L fa cd)) (assign (by_elab lawTargetE 3) (envOf (PySem.Str.ofString "law") (by_elab lawScopeE) L fa cd) (.int (0 + (i : Int)) t))
      (fun _ s₃ => wpAny (model PySem.Challenge.rw_vq0009_01.row.prog w) (callerA.deeper (envOf (PySem.Str.ofString "law") (by_elab lawScopeE) L fa cd)) (execs (by_elab lawBodyE 3) (envOf (PySem.Str.ofString "law") (by_elab lawScopeE) L fa cd)) (TurnEnd h₀ L (I, oI) (Led2 rl nl nv nn rest) (ps2 rl nl) (P2 rl nl ns rest) (i + 1) s₁) E s₃) E s₁ := by
  obtain ⟨hp1, hp2, hp3, hp4, hp5, hp6⟩ := hP
  revert X
  run_tac afresh
  k_fill
  intro X
  generalize hE : TurnEnd h₀ L (I, oI) (Led2 rl nl nv nn rest) (ps2 rl nl) (P2 rl nl ns rest) (i + 1) s₁ = R
  have q1 : rl ≠ I := hoff _ (.head _)
  have q2 : nl ≠ I := hoff _ (.tail _ (.head _))
  have q3 : I ≠ rl := q1.symm
  have q4 : nl ≠ rl := hrl.symm
  obtain ⟨n, hn64, hn1, hn2⟩ : ∃ n, n < 2 ^ 64 ∧ ns[i]? = some n ∧ ItemAt nv (0 + (i : Int)) n := itemAt_at hlen hI hns hi h6
  obtain ⟨d, hd64, hd2⟩ : ∃ d, d < 2 ^ 64 ∧ ItemAt nv (0 + (i : Int) - 1) d := itemAt_before hlen hI hns hi h6
  simp only [Led2] at N
  simp only [ps2, kstB] at F
  have hp7 := hp6.at (.head _)
  have hp8 := hp6.at (.tail _ (.head _))
  have hp9 : ∀ q ∈ c.tl, q.1 ≠ I := fun q hq => hoff q (.tail _ (.tail _ hq))
  have hp10 : Sep [I, rl, nl] c.tl := .cons hp9 hp6
  generalize htl : c.tl = tl at hp4 hp6 hp7 hp8 hp9 hp10 N
  clear hlen hI hns
  have hv1 : (pv n).length ≤ 16 := by have := pv_len 9 n (Nat.lt_of_lt_of_le hn64 (by decide)); omega
  have hv2 : (pv (d % 256 % 128)).length ≤ 16 := by have := pv_len 9 (d % 256 % 128) (by omega); omega
  have hv3 : (pv (n % 144115188075855872)).length ≤ 16 := by have := pv_len 9 (n % 144115188075855872) (by omega); omega
  have hw1 : (rlp n).length ≤ 16 := by have := rlp_len hn64; omega
  have hw2 : (rlp (n % 72057594037927936)).length ≤ 16 ∧ 1 ≤ (rlp (n % 72057594037927936)).length := by
    have := rlp_len (n := n % 72057594037927936) (by omega)
    refine ⟨by omega, ?_⟩
    unfold rlp; split
    · simp
    · split <;> simp
  have hw3 : ((rlp (n % 72057594037927936)).drop 1).length ≤ 16 := by rw [List.length_drop]; omega
  k_steps
  refine Stop.off ?_
  rename Fr h₀ L _ _ => F9
  rename News h₀ L _ _ => N9
  rename TL _ _ => T9
  refine wpAny_mono (t2B w loose mean mg mb h₀ L fa cd E B X T C1 C2 _ _ I rl nl oI _ _ _ _ (n % 144115188075855872) (d % 256) _ _ T9 (by walk_at "vq sep") (by omega) (by omega) rfl rfl F9 (cb_drop N9 (by walk_at "vq tail"))) ?_ fun _ _ e => e
  clear T9 F9 N9
  rintro f s' ⟨rfl, h', tk', tl', rfl, T9, S9, F9, N9⟩
  k_steps
  refine Stop.off ?_
  rename Fr h₀ L _ _ => F9
  rename News h₀ L _ _ => N9
  refine wpAny_mono (t2C1 w loose mean mg mb h₀ L fa cd E B X T C1 C2 _ _ _ (n % 72057594037927936) _ (by omega) rfl F9 N9) ?_ fun _ _ e => e
  clear F9 N9
  rintro v s' ⟨ab, ta, h2, tk2, rfl, rfl, hab, F9, N9⟩
  k_steps
  refine Stop.off ?_
  rename Fr h₀ L _ _ => F9
  rename News h₀ L _ _ => N9
  refine wpAny_mono (t2C2 w loose mean mg mb h₀ L fa cd E B X T C1 C2 _ _ _ (n % 72057594037927936) (d % 256) _ _ _ ab (by omega) (by omega) hab rfl rfl rfl F9 N9) ?_ fun _ _ e => e
  clear F9 N9
  rintro f s' ⟨rfl, h3, tk3, rfl, F9, N9⟩
  have hfl := rows_len hp3
  k_steps
  subst hE
  rename Fr h₀ L _ _ => F8
  rename News h₀ L _ _ => N8
  refine' turn2_end ⟨n, _, _, _, _, _, _⟩ F8 N8 T9 S9 ?m4 ⟨hn64, ?one, ?two⟩ ?hD ?hDI q1 q2 ?m1 ?m2 ?m3 ?m5 rfl rfl rfl ?hb hp1 hp2 hp3 hn1
  (case m4 => walk_at "vq mem")
  (case m1 => walk_at "vq mem")
  (case m2 => walk_at "vq mem")
  (case m3 => walk_at "vq mem")
  (case m5 => walk_at "vq tail")
  (case one => assumption)
  (case two => assumption)
  (case hD => dsimp only; walk_at "vq apart")
  (case hDI => refine ⟨?_, ?_, ?_⟩ <;> (refine Nat.ne_of_lt ?_; dsimp only; omega))
  (case hb => assumption)
end
section
set_option maxRecDepth 100000 in
set_option maxHeartbeats 8000000 in
theorem rowA5 (w : World) (h₀ : Heap) (L fa : Addr) (cd : Value) (E : Value → Shared → Prop) (X : (hd.heap_39 w.params).In h₀)
    (s : Shared) (m : Str → Option Value) (big : List (Addr × Obj)) (r : Row) (hr : r.tup ∈ big) (F : Fr h₀ L s.heap m) (N : News h₀ L s.heap big) :
    wpAny (model PySem.Challenge.rw_vq0009_01.row.prog w) (callerA.deeper (envOf (PySem.Str.ofString "law") (by_elab lawScopeE) L fa cd)) (assign (by_elab lawTargetE 5) (envOf (PySem.Str.ofString "law") (by_elab lawScopeE) L fa cd) (.ref r.D)) (fun _ s' => ∃ h' tk, s' = { s with heap := h', toks := tk } ∧ Fr h₀ L h' (fun y => if y = Str.ofString "other" then some (.bytes r.b2 r.t2) else if y = Str.ofString "one" then some (.bytes r.b1 r.t1) else if y = Str.ofString "number" then some (.int (r.n : Int) r.t) else m y) ∧ News h₀ L h' big) E s := by
  revert X
  run_tac afresh
  k_fill
  intro X
  generalize hR : (fun (_ : Unit) (s' : Shared) => ∃ h' tk, s' = { s with heap := h', toks := tk } ∧ Fr h₀ L h' (fun y => if y = Str.ofString "other" then some (.bytes r.b2 r.t2) else if y = Str.ofString "one" then some (.bytes r.b1 r.t1) else if y = Str.ofString "number" then some (.int (r.n : Int) r.t) else m y) ∧ News h₀ L h' big) = R
  have N2 : News h₀ L s.heap ((r.D, ⟨.type "tuple", none, .seq #[.int (r.n : Int) r.t, .bytes r.b1 r.t1, .bytes r.b2 r.t2] 0, #[]⟩) :: big) := by
    intro p hp
    rcases List.mem_cons.mp hp with rfl | hp
    · exact N _ hr
    · exact N p hp
  clear N
  k_steps
  subst hR
  rename Fr h₀ L _ _ => F9
  rename News h₀ L _ _ => N9
  exact ⟨_, _, rfl, F9, cb_drop N9 (by walk_at "vq tail")⟩
set_option maxRecDepth 100000 in
set_option maxHeartbeats 8000000 in
theorem rowA7 (w : World) (h₀ : Heap) (L fa : Addr) (cd : Value) (E : Value → Shared → Prop) (X : (hd.heap_39 w.params).In h₀)
    (s : Shared) (m : Str → Option Value) (big : List (Addr × Obj)) (r : Row) (hr : r.tup ∈ big) (F : Fr h₀ L s.heap m) (N : News h₀ L s.heap big) :
    wpAny (model PySem.Challenge.rw_vq0009_01.row.prog w) (callerA.deeper (envOf (PySem.Str.ofString "law") (by_elab lawScopeE) L fa cd)) (assign (by_elab lawTargetE 7) (envOf (PySem.Str.ofString "law") (by_elab lawScopeE) L fa cd) (.ref r.D)) (fun _ s' => ∃ h' tk, s' = { s with heap := h', toks := tk } ∧ Fr h₀ L h' (fun y => if y = Str.ofString "other" then some (.bytes r.b2 r.t2) else if y = Str.ofString "one" then some (.bytes r.b1 r.t1) else if y = Str.ofString "number" then some (.int (r.n : Int) r.t) else m y) ∧ News h₀ L h' big) E s := by
  revert X
  run_tac afresh
  k_fill
  intro X
  generalize hR : (fun (_ : Unit) (s' : Shared) => ∃ h' tk, s' = { s with heap := h', toks := tk } ∧ Fr h₀ L h' (fun y => if y = Str.ofString "other" then some (.bytes r.b2 r.t2) else if y = Str.ofString "one" then some (.bytes r.b1 r.t1) else if y = Str.ofString "number" then some (.int (r.n : Int) r.t) else m y) ∧ News h₀ L h' big) = R
  have N2 : News h₀ L s.heap ((r.D, ⟨.type "tuple", none, .seq #[.int (r.n : Int) r.t, .bytes r.b1 r.t1, .bytes r.b2 r.t2] 0, #[]⟩) :: big) := by
    intro p hp
    rcases List.mem_cons.mp hp with rfl | hp
    · exact N _ hr
    · exact N p hp
  clear N
  k_steps
  subst hR
  rename Fr h₀ L _ _ => F9
  rename News h₀ L _ _ => N9
  exact ⟨_, _, rfl, F9, cb_drop N9 (by walk_at "vq tail")⟩
set_option maxRecDepth 100000 in
set_option maxHeartbeats 8000000 in
theorem rowA8 (w : World) (h₀ : Heap) (L fa : Addr) (cd : Value) (E : Value → Shared → Prop) (X : (hd.heap_39 w.params).In h₀)
    (s : Shared) (m : Str → Option Value) (big : List (Addr × Obj)) (r : Row) (hr : r.tup ∈ big) (F : Fr h₀ L s.heap m) (N : News h₀ L s.heap big) :
    wpAny (model PySem.Challenge.rw_vq0009_01.row.prog w) (callerA.deeper (envOf (PySem.Str.ofString "law") (by_elab lawScopeE) L fa cd)) (assign (by_elab lawTarget2E 7) (envOf (PySem.Str.ofString "law") (by_elab lawScopeE) L fa cd) (.ref r.D)) (fun _ s' => ∃ h' tk, s' = { s with heap := h', toks := tk } ∧ Fr h₀ L h' (fun y => if y = Str.ofString "second" then some (.bytes r.b2 r.t2) else if y = Str.ofString "first" then some (.bytes r.b1 r.t1) else if y = Str.ofString "least" then some (.int (r.n : Int) r.t) else m y) ∧ News h₀ L h' big) E s := by
  revert X
  run_tac afresh
  k_fill
  intro X
  generalize hR : (fun (_ : Unit) (s' : Shared) => ∃ h' tk, s' = { s with heap := h', toks := tk } ∧ Fr h₀ L h' (fun y => if y = Str.ofString "second" then some (.bytes r.b2 r.t2) else if y = Str.ofString "first" then some (.bytes r.b1 r.t1) else if y = Str.ofString "least" then some (.int (r.n : Int) r.t) else m y) ∧ News h₀ L h' big) = R
  have N2 : News h₀ L s.heap ((r.D, ⟨.type "tuple", none, .seq #[.int (r.n : Int) r.t, .bytes r.b1 r.t1, .bytes r.b2 r.t2] 0, #[]⟩) :: big) := by
    intro p hp
    rcases List.mem_cons.mp hp with rfl | hp
    · exact N _ hr
    · exact N p hp
  clear N
  k_steps
  subst hR
  rename Fr h₀ L _ _ => F9
  rename News h₀ L _ _ => N9
  exact ⟨_, _, rfl, F9, cb_drop N9 (by walk_at "vq tail")⟩
end
section
section
open PySem.SeqAt
variable {A : Around} {s : Shared}
theorem eqAt_bytes {b : Array UInt8} {t u : Tok} : EqAt A s (.bytes b t) (.bytes b u) true := fun prog w E Q h => by
  unfold eqBool
  refine wpAny_holding ?_
  refine wpAny_ite_split (fun hab => wpAny_bind (wpAny_rule (wpAny_pure h))) (fun _ => ?_)
  refine wpAny_bind ?_
  show wpAny (model prog w) A (compareOp .Eq (.bytes b t) (.bytes b u)) _ E s
  refine PySem.W.eq_bytes ?_
  have e : (b.toList == b.toList) = true := by simp
  rw [e]
  exact wpAny_truthy_bool h
theorem eqAt_int {a : Int} {t u : Tok} : EqAt A s (.int a t) (.int a u) true := by
  have h := (MeetsSeq.EqGives.int a a t u).at A s
  have e : (a == a) = true := by simp
  rwa [e] at h
theorem isTupOf {h₀ h : Heap} {L l : Addr} {news : List (Addr × Obj)} {its : Array Value} {n : Nat} (N : News h₀ L h news) (hm : (l, ⟨.type "tuple", none, .seq its n, #[]⟩) ∈ news) : h.IsTuple l its := ⟨_, (N _ hm).1, rfl, n, rfl⟩
variable {prog : Program} {w : World} {E : Value → Shared → Prop} {Q : Value → Shared → Prop} {h₀ : Heap} {L : Addr} {news : List (Addr × Obj)}
theorem rcAt_L1 {A : Around} {l l2 : Addr} {b : Array UInt8} {t u : Tok} {k k2 : Nat} (N : News h₀ L s.heap news) (m1 : (l, W.listOf #[.bytes b t] k) ∈ news) (m2 : (l2, W.listOf #[.bytes b u] k2) ∈ news) (hu : A.units < cLine) : RcAt A s (.ref l) (.ref l2) true := by
  have h := RcAt.lists (A := A) (s := s) (e := fun _ => true) (isListOf N m1) (isListOf N m2) rfl hu (fun j h1 h2 => by
    have : j = 0 := by simp at h1; omega
    subst this
    exact eqAt_bytes)
  exact h
theorem neL1 {l l2 : Addr} {b : Array UInt8} {t u : Tok} {k k2 : Nat} (N : News h₀ L s.heap news) (m1 : (l, W.listOf #[.bytes b t] k) ∈ news) (m2 : (l2, W.listOf #[.bytes b u] k2) ∈ news) (hu : A.units < cLine) (h : Q (.bool false) s) : wpAny (model prog w) A (compareOp .NotEq (.ref l) (.ref l2)) Q E s := by
  have g := RcNeAt.lists (A := A) (s := s) (e := fun _ => true) (isListOf N m1) (isListOf N m2) rfl hu (fun j h1 h2 => by
    have : j = 0 := by simp at h1; omega
    subst this
    exact eqAt_bytes)
  exact g prog w E Q h
theorem neT3 {D D2 l l2 : Addr} {b c : Array UInt8} {x : Int} {t u t2 u2 t3 u3 : Tok} {k k2 kk kk2 : Nat} (N : News h₀ L s.heap news) (m1 : (D, ⟨.type "tuple", none, .seq #[.bytes b t, .ref l, .int x t2] k, #[]⟩) ∈ news) (m2 : (D2, ⟨.type "tuple", none, .seq #[.bytes b u, .ref l2, .int x u2] k2, #[]⟩) ∈ news)
    (m3 : (l, W.listOf #[.bytes c t3] kk) ∈ news) (m4 : (l2, W.listOf #[.bytes c u3] kk2) ∈ news) (hne : l ≠ l2) (hu : A.units < cLine) (hu2 : A.in1.units < cLine) (h : Q (.bool false) s) : wpAny (model prog w) A (compareOp .NotEq (.ref D) (.ref D2)) Q E s := by
  have g := RcNeAt.tuples (A := A) (s := s) (e := fun _ => true) (isTupOf N m1) (isTupOf N m2) hu (fun j h1 h2 => by
    have : j = 0 ∨ j = 1 ∨ j = 2 := by simp at h1; omega
    rcases this with rfl | rfl | rfl
    · exact eqAt_bytes
    · exact EqAt.of_refs hne (rcAt_L1 N m3 m4 hu2)
    · exact eqAt_int)
  exact g prog w E Q h
theorem neT2 {D D2 : Addr} {x y : Int} {t u t2 u2 : Tok} {k k2 : Nat} (N : News h₀ L s.heap news) (m1 : (D, ⟨.type "tuple", none, .seq #[.int x t, .int y t2] k, #[]⟩) ∈ news) (m2 : (D2, ⟨.type "tuple", none, .seq #[.int x u, .int y u2] k2, #[]⟩) ∈ news)
    (hu : A.units < cLine) (h : Q (.bool false) s) : wpAny (model prog w) A (compareOp .NotEq (.ref D) (.ref D2)) Q E s := by
  have g := RcNeAt.tuples (A := A) (s := s) (e := fun _ => true) (isTupOf N m1) (isTupOf N m2) hu (fun j h1 h2 => by
    have : j = 0 ∨ j = 1 := by simp at h1; omega
    rcases this with rfl | rfl
    · exact eqAt_int
    · exact eqAt_int)
  exact g prog w E Q h
end
end
section
local macro_rules | `(tactic| walk_at "compareOp NotEq int int") => `(tactic| (k_here; first | (with_reducible refine neI rfl ?_) | refine neI (be_foldl _) ?_ | refine neI (be_value _) ?_))
theorem arr_ext {b c : Array UInt8} (h : KBw.bInts b = KBw.bInts c) : b = c := by
  have := bInts_inj h
  exact Array.toList_inj.mp this
local macro_rules | `(tactic| walk_at "compareOp NotEq ref ref") => `(tactic| (k_here; k_dflt (refine' neL1 ?N ?a ?b ?u ?_; (case N => k_asm); (case a => walk_at "vq mem"); (case b => walk_at "vq mem"); (case u => (first | ktr_units | exact Nat.le_of_ble_eq_true rfl)))))
local macro_rules | `(tactic| walk_at "compareOp Eq bytes bytes") => `(tactic| (k_here; k_dflt (refine' eqB_ne ?a ?b ?e ?_; (case a => assumption); (case b => exact (rfl : KBw.bInts #[0] = [0])); (case e => exact be_head _))))
set_option maxRecDepth 100000 in
set_option maxHeartbeats 8000000 in
theorem t3I1 (w : World) (loose : List Str) (mean : ExcName → Option Value) (mg mb : Str → Option Value) (h₀ : Heap) (L fa : Addr) (cd : Value) (E : Value → Shared → Prop)
    (B : Below callerA h₀ [] h₀) (X : (hd.heap_39 w.params).In h₀) (T : Top topProg loose mean mg mb h₀) (C1 : CodeHd h₀ 116 112) (C2 : CodeHd h₀ 70 66)
    (s : Shared) (m : Str → Option Value) (big : List (Addr × Obj)) (n : Nat) (h64 : n < 2 ^ 64) (b1 b2 : Array UInt8) (t1 t2 t3 t4 t5 : Tok) (l : Addr) (k : Nat) (hb1 : KBw.bInts b1 = be n) (hb2 : KBw.bInts b2 = rlp n)
    (hm : ∀ p ∈ ([(Str.ofString "told", .int (n : Int) t1), (Str.ofString "number", .int (n : Int) t2), (Str.ofString "item", .bytes b1 t3), (Str.ofString "parts", .ref l), (Str.ofString "other", .bytes b2 t4)] : List (Str × Value)), m p.1 = some p.2) (F : Fr h₀ L s.heap m) (N : News h₀ L s.heap big) (hl : (l, W.listOf #[.bytes b2 t5] k) ∈ big) :
    wpAny (model PySem.Challenge.rw_vq0009_01.row.prog w) (callerA.deeper (envOf (PySem.Str.ofString "law") (by_elab lawScopeE) L fa cd)) (exec (by_elab lawSubE 5 2) (envOf (PySem.Str.ofString "law") (by_elab lawScopeE) L fa cd)) (fun f s' => f = .next ∧ ∃ h' tk, s' = { s with heap := h', toks := tk } ∧ Fr h₀ L h' m ∧ News h₀ L h' big) E s := by
  revert X
  run_tac afresh
  k_fill
  intro X
  have em : m = kstB m [(Str.ofString "told", .int (n : Int) t1), (Str.ofString "number", .int (n : Int) t2), (Str.ofString "item", .bytes b1 t3), (Str.ofString "parts", .ref l), (Str.ofString "other", .bytes b2 t4)] := (kstB_self hm).symm
  have hbe : (be n).length ≤ 8 := by
    by_cases h0 : n = 0
    · subst h0; rw [be_zero]; simp
    · exact (be_len_bounds h0 h64).2
  have hw2 : (rlp n).length ≤ 16 := by have := rlp_len h64; omega
  generalize hR : (fun (f : Flow) (s' : Shared) => f = .next ∧ ∃ h' tk, s' = { s with heap := h', toks := tk } ∧ Fr h₀ L h' m ∧ News h₀ L h' big) = R
  have hF : Fr h₀ L s.heap (kstB m [(Str.ofString "told", .int (n : Int) t1), (Str.ofString "number", .int (n : Int) t2), (Str.ofString "item", .bytes b1 t3), (Str.ofString "parts", .ref l), (Str.ofString "other", .bytes b2 t4)]) := em ▸ F
  simp only [kstB] at hF
  clear F hm
  have N2 : News h₀ L s.heap ((l, W.listOf #[.bytes b2 t5] k) :: big) := by
    intro p hp
    rcases List.mem_cons.mp hp with rfl | hp
    · exact N _ hl
    · exact N p hp
  clear N hl
  k_steps
  subst hR
  rename Fr h₀ L _ _ => F9
  rename News h₀ L _ _ => N9
  exact ⟨rfl, _, _, rfl, by rw [em]; exact F9, cb_drop N9 (by walk_at "vq tail")⟩
end
section
section
open PySem.SeqAt
variable {A : Around} {s : Shared} {prog : Program} {w : World} {E : Value → Shared → Prop} {Q : Value → Shared → Prop} {h₀ : Heap} {L : Addr} {news : List (Addr × Obj)}
theorem neT3e {D D2 l l2 : Addr} {b c b' c' : Array UInt8} {ks kc : List Int} {x y : Int} {t u t2 u2 t3 u3 : Tok} {k k2 kk kk2 : Nat} (N : News h₀ L s.heap news) (m1 : (D, ⟨.type "tuple", none, .seq #[.bytes b t, .ref l, .int x t2] k, #[]⟩) ∈ news) (m2 : (D2, ⟨.type "tuple", none, .seq #[.bytes b' u, .ref l2, .int y u2] k2, #[]⟩) ∈ news)
    (m3 : (l, W.listOf #[.bytes c t3] kk) ∈ news) (m4 : (l2, W.listOf #[.bytes c' u3] kk2) ∈ news) (e1 : KBw.bInts b = ks) (e2 : KBw.bInts b' = ks) (e3 : KBw.bInts c = kc) (e4 : KBw.bInts c' = kc) (e5 : x = y) (hne : l ≠ l2) (hu : A.units < cLine) (hu2 : A.in1.units < cLine) (h : Q (.bool false) s) : wpAny (model prog w) A (compareOp .NotEq (.ref D) (.ref D2)) Q E s := by
  have f1 : b = b' := Array.toList_inj.mp (bInts_inj (e1.trans e2.symm))
  have f2 : c = c' := Array.toList_inj.mp (bInts_inj (e3.trans e4.symm))
  subst f1; subst f2; subst e5
  exact neT3 N m1 m2 m3 m4 hne hu hu2 h
end
local macro_rules | `(tactic| walk_at "call ref") => `(tactic| (k_here; (with_reducible show wpAny _ _ (call (Value.ref 525) [Value.bytes _ _, Value.int _ _]) _ _ _); k_dflt (refine' item_use (cl := []) ?B ?F ?X ?N ?T ?C1 ?C2 ?e ?hz ?hx ?h64 ?hk ?hd ?hu ?_; (case e => assumption); (case B => k_asm); (case F => k_asm); (case X => k_asm); (case N => k_asm); (case T => k_asm); (case C1 => assumption); (case C2 => assumption); (case hz => assumption); (case hx => first | assumption | (simp only [List.length_append, List.length_nil] <;> omega)); (case h64 => assumption); (case hk => rfl); (case hd => decide); (case hu => decide)); intro D' l' b1' b2' t1' t2' t3' k' h' tk' hb1' hb2' l1 l2 F' N'; (try k_lt l1); (try dsimp only); (try k_sweep)))
local macro_rules | `(tactic| walk_at "compareOp NotEq ref ref") => `(tactic| (k_here; refine Stop.on ?_))
set_option maxRecDepth 100000 in
set_option maxHeartbeats 8000000 in
theorem t3I2 (w : World) (loose : List Str) (mean : ExcName → Option Value) (mg mb : Str → Option Value) (h₀ : Heap) (L fa : Addr) (cd : Value) (E : Value → Shared → Prop)
    (B : Below callerA h₀ [] h₀) (X : (hd.heap_39 w.params).In h₀) (T : Top topProg loose mean mg mb h₀) (C1 : CodeHd h₀ 116 112) (C2 : CodeHd h₀ 70 66)
    (s : Shared) (m : Str → Option Value) (big : List (Addr × Obj)) (n : Nat) (h64 : n < 2 ^ 64) (b1 b2 : Array UInt8) (t2 t3 t4 : Tok) (hb1 : KBw.bInts b1 = be n) (hb2 : KBw.bInts b2 = rlp n)
    (hm : ∀ p ∈ ([(Str.ofString "number", .int (n : Int) t2), (Str.ofString "item", .bytes b1 t3), (Str.ofString "other", .bytes b2 t4)] : List (Str × Value)), m p.1 = some p.2) (F : Fr h₀ L s.heap m) (N : News h₀ L s.heap big) :
    wpAny (model PySem.Challenge.rw_vq0009_01.row.prog w) (callerA.deeper (envOf (PySem.Str.ofString "law") (by_elab lawScopeE) L fa cd)) (exec (by_elab lawSubE 5 3) (envOf (PySem.Str.ofString "law") (by_elab lawScopeE) L fa cd)) (fun f s' => f = .next ∧ ∃ h' tk, s' = { s with heap := h', toks := tk } ∧ Fr h₀ L h' m ∧ News h₀ L h' big) E s := by
  revert X
  run_tac afresh
  k_fill
  intro X
  have em : m = kstB m [(Str.ofString "number", .int (n : Int) t2), (Str.ofString "item", .bytes b1 t3), (Str.ofString "other", .bytes b2 t4)] := (kstB_self hm).symm
  have hbe : (be n).length ≤ 8 := by
    by_cases h0 : n = 0
    · subst h0; rw [be_zero]; simp
    · exact (be_len_bounds h0 h64).2
  have hw2 : (rlp n).length ≤ 16 := by have := rlp_len h64; omega
  have e3 : KBw.bInts b2 = [] ++ rlp n ++ [] := by rw [hb2]; simp
  have hz3 : (KBw.bInts b2).length ≤ 16777216 := by rw [hb2]; omega
  have hx3 : (0 : Int) = ((([] : List Int).length : Nat) : Int) := rfl
  generalize hR : (fun (f : Flow) (s' : Shared) => f = .next ∧ ∃ h' tk, s' = { s with heap := h', toks := tk } ∧ Fr h₀ L h' m ∧ News h₀ L h' big) = R
  have hF : Fr h₀ L s.heap (kstB m [(Str.ofString "number", .int (n : Int) t2), (Str.ofString "item", .bytes b1 t3), (Str.ofString "other", .bytes b2 t4)]) := em ▸ F
  simp only [kstB] at hF
  clear F hm
  k_steps
  refine Stop.off ?_
  rename Fr h₀ L _ _ => F9
  rename News h₀ L _ _ => N9
  refine' neT3e (ks := be n) (kc := rlp n) N9 ?m1 ?m2 ?m3 ?m4 ?e1 hb1 ?e2 hb2 ?e5 ?hne ?u ?u2 ?_
  (case m1 => walk_at "vq mem")
  (case m2 => walk_at "vq mem")
  (case m3 => walk_at "vq mem")
  (case m4 => walk_at "vq mem")
  (case e1 => assumption)
  (case e2 => assumption)
  (case e5 => simp)
  (case hne => exact Nat.ne_of_lt (by omega))
  (case u => exact Nat.le_of_ble_eq_true rfl)
  (case u2 => exact Nat.le_of_ble_eq_true rfl)
  k_steps
  subst hR
  rename Fr h₀ L _ _ => F9
  rename News h₀ L _ _ => N9
  exact ⟨rfl, _, _, rfl, by rw [em]; exact F9, cb_drop N9 (by walk_at "vq tail")⟩
end
section
local macro_rules | `(tactic| walk_at "vq none 1") => `(tactic| skip)
structure St3 where
  place : Nat
  tp : Tok
  tl : List (Addr × Obj)
abbrev Led3 (rl nl : Addr) (rv : List Value) (rk : Nat) (nv : List Value) (nn : Nat) (c : St3) : List (Addr × Obj) := (rl, W.listOf rv.toArray rk) :: (nl, W.listOf nv.toArray nn) :: c.tl
abbrev ps3 (rl nl : Addr) (sb : Array UInt8) (ts : Tok) (c : St3) : List (Str × Value) := [(Str.ofString "numbers", .ref nl), (Str.ofString "rows", .ref rl), (Str.ofString "stream", .bytes sb ts), (Str.ofString "place", .int (c.place : Int) c.tp)]
def P3 (rl nl : Addr) (rows : List Row) (rest : List (Addr × Obj)) (i : Nat) (c : St3) : Prop :=
  TL (rows.map Row.tup ++ rest) c.tl ∧ Sep [rl, nl] c.tl ∧ c.place = (((rows.take i).map Row.octs).flatten).length
local macro_rules | `(tactic| walk_at "call ref") => `(tactic| (k_here; (with_reducible show wpAny _ _ (call (Value.ref 124) [Value.bytes _ _, Value.int _ _]) _ _ _); (with_reducible rename TL _ _ => tl8); k_dflt (refine' dec_use (cl := []) ?B ?F ?X ?N ?T ?C1 ?C2 tl8 ?P ?S ?e ?hz ?hx ?h64 ?hk ?hd ?hu ?_; (case e => assumption); (case B => k_asm); (case F => k_asm); (case X => k_asm); (case N => k_asm); (case T => k_asm); (case C1 => assumption); (case C2 => assumption); (case P => walk_at "vq pre"); (case S => walk_at "vq sep"); (case hz => assumption); (case hx => first | assumption | (simp only [List.length_append, List.length_nil] <;> omega)); (case h64 => assumption); (case hk => rfl); (case hd => decide); (case hu => decide)); (clear tl8); intro D' t1' t2' h' tk' tl' TL' S' l1 F' N'; (try k_lt l1); (try simp only [List.cons_append, List.nil_append] at N'); (try dsimp only); (try k_sweep)))
local macro_rules | `(tactic| walk_at "call ref") => `(tactic| (k_here; (with_reducible show wpAny _ _ (call (Value.ref 525) [Value.bytes _ _, Value.int _ _]) _ _ _); k_dflt (refine' item_use (cl := []) ?B ?F ?X ?N ?T ?C1 ?C2 ?e ?hz ?hx ?h64 ?hk ?hd ?hu ?_; (case e => assumption); (case B => k_asm); (case F => k_asm); (case X => k_asm); (case N => k_asm); (case T => k_asm); (case C1 => assumption); (case C2 => assumption); (case hz => assumption); (case hx => first | assumption | (simp only [List.length_append, List.length_nil] <;> omega)); (case h64 => assumption); (case hk => rfl); (case hd => decide); (case hu => decide)); intro D' l' b1' b2' t1' t2' t3' k' h' tk' hb1' hb2' l1 l2 F' N'; (try k_lt l1); (try dsimp only); (try k_sweep)))
theorem stream_at {rows : List Row} {i : Nat} {r : Row} {more : List Int} (h : rows[i]? = some r) : ∃ post, (rows.map Row.octs).flatten ++ more = ((rows.take i).map Row.octs).flatten ++ pv r.n ++ (rlp r.n ++ post) := by
  refine ⟨((rows.drop (i + 1)).map Row.octs).flatten ++ more, ?_⟩
  have hi : i < rows.length := (List.getElem?_eq_some_iff.mp h).1
  have e : rows = rows.take i ++ r :: rows.drop (i + 1) := by
    have h1 := List.take_append_drop (i + 1) rows
    rw [List.take_add_one, h, List.append_assoc] at h1
    exact h1.symm
  conv => lhs; rw [e]
  simp [Row.octs]
local macro_rules | `(tactic| walk_at "exec If") => `(tactic| (refine Stop.on ?_))
set_option maxRecDepth 100000 in
set_option maxHeartbeats 8000000 in
theorem turn3 (w : World) (loose : List Str) (mean : ExcName → Option Value) (mg mb : Str → Option Value) (h₀ : Heap) (L fa : Addr) (cd : Value) (E : Value → Shared → Prop)
    (B : Below callerA h₀ [] h₀) (X : (hd.heap_39 w.params).In h₀) (T : Top topProg loose mean mg mb h₀) (C1 : CodeHd h₀ 116 112) (C2 : CodeHd h₀ 70 66)
    (rl nl : Addr) (nv : List Value) (nn rk : Nat) (rows : List Row) (rest : List (Addr × Obj)) (hrl : rl ≠ nl) (sb : Array UInt8) (ts : Tok) (hrows : ∀ r ∈ rows, r.Ok) (more : List Int) (hsb : KBw.bInts sb = (rows.map Row.octs).flatten ++ more) (hsz : (KBw.bInts sb).length ≤ 16777216)
    (i : Nat) (r : Row) (hr : rows[i]? = some r) (c : St3) (u : Str → Option Value) (s₁ : Shared) (I : Addr) (oI : Obj) (hP : P3 rl nl rows rest i c) (hoff : ∀ p ∈ Led3 rl nl (rows.map Row.ref) rk nv nn c, p.1 ≠ I) (F : Fr h₀ L s₁.heap (kstB u (ps3 rl nl sb ts c))) (N : News h₀ L s₁.heap ((I, oI) :: Led3 rl nl (rows.map Row.ref) rk nv nn c)) :
    wpAny (model PySem.Challenge.rw_vq0009_01.row.prog w) (callerA.deeper (envOf (PySem.Str.ofString "law") (by_elab lawScopeE) L fa cd)) (assign (by_elab lawTargetE 5) (envOf (PySem.Str.ofString "law") (by_elab lawScopeE) L fa cd) r.ref)
      (fun _ s₃ => wpAny (model PySem.Challenge.rw_vq0009_01.row.prog w) (callerA.deeper (envOf (PySem.Str.ofString "law") (by_elab lawScopeE) L fa cd)) (execs (by_elab lawBodyE 5) (envOf (PySem.Str.ofString "law") (by_elab lawScopeE) L fa cd)) (TurnEnd h₀ L (I, oI) (Led3 rl nl (rows.map Row.ref) rk nv nn) (ps3 rl nl sb ts) (P3 rl nl rows rest) (i + 1) s₁) E s₃) E s₁ := by
  obtain ⟨hp1, hp2, hp3⟩ := hP
  revert X
  run_tac afresh
  k_fill
  intro X
  generalize hE : TurnEnd h₀ L (I, oI) (Led3 rl nl (rows.map Row.ref) rk nv nn) (ps3 rl nl sb ts) (P3 rl nl rows rest) (i + 1) s₁ = R
  have q1 : rl ≠ I := hoff _ (.head _)
  have q2 : nl ≠ I := hoff _ (.tail _ (.head _))
  have q3 : I ≠ rl := q1.symm
  have q4 : nl ≠ rl := hrl.symm
  have hp9 : ∀ q ∈ c.tl, q.1 ≠ I := fun q hq => hoff q (.tail _ (.tail _ hq))
  have hp10 : Sep [I, rl, nl] c.tl := .cons hp9 hp2
  simp only [Led3] at N
  simp only [ps3, kstB] at F
  generalize htl : c.tl = tl at hp1 hp2 hp9 hp10 N
  have hrm : r.tup ∈ tl := by
    obtain ⟨ledV, ledD, _, _, _, _, rfl⟩ := hp1
    exact List.mem_append_right _ (List.mem_append_right _ (List.mem_append_left _ (List.mem_map.mpr ⟨r, List.mem_of_getElem? hr, rfl⟩)))
  obtain ⟨post, e0⟩ := stream_at (more := more) hr
  generalize hpre : ((rows.take i).map Row.octs).flatten = pre at e0 hp3
  have e1 : KBw.bInts sb = pre ++ pv r.n ++ (rlp r.n ++ post) := by rw [hsb, e0]
  have e2 : KBw.bInts sb = (pre ++ pv r.n) ++ rlp r.n ++ post := by rw [e1]; simp
  have hok := hrows r (List.mem_of_getElem? hr)
  have h64 := hok.lt
  have e3 : KBw.bInts r.b2 = [] ++ rlp r.n ++ [] := by rw [hok.two]; simp
  have hz3 : (KBw.bInts r.b2).length ≤ 16777216 := by rw [hok.two]; have := rlp_len h64; omega
  have hx1 : ((c.place : Nat) : Int) = ((pre.length : Nat) : Int) := by rw [hp3]
  refine wpAny_mono (rowA5 w h₀ L fa cd E X s₁ _ _ r (.tail _ (.tail _ (.tail _ hrm))) F N) ?_ fun _ _ e => e
  clear F N
  rintro _ s' ⟨h', tk', rfl, F9, N9⟩
  k_steps
  refine Stop.off ?_
  rename Fr h₀ L _ _ => F9
  rename News h₀ L _ _ => N9
  rename KBw.bInts _ = rlp r.n => hq2
  rename KBw.bInts _ = be r.n => hq1
  have e9 := arr_ext (hq2.trans hok.two.symm)
  subst e9
  refine' wpAny_mono (t3I1 w loose mean mg mb h₀ L fa cd E B X T C1 C2 _ _ _ r.n h64 _ r.b2 _ _ _ _ _ _ _ hq1 hok.two ?hm F9 N9 ?hl) ?_ fun _ _ e => e
  (case hl => walk_at "vq mem")
  (case hm => intro p hp; simp only [List.mem_cons, List.not_mem_nil, or_false] at hp; rcases hp with rfl | rfl | rfl | rfl | rfl <;> rfl)
  clear F9 N9
  rintro f s' ⟨rfl, h3, tk3, rfl, F9, N9⟩
  k_steps
  refine Stop.off ?_
  rename Fr h₀ L _ _ => F8
  rename News h₀ L _ _ => N8
  refine' wpAny_mono (t3I2 w loose mean mg mb h₀ L fa cd E B X T C1 C2 _ _ _ r.n h64 _ r.b2 _ _ _ hq1 hok.two ?hm F8 N8) ?_ fun _ _ e => e
  (case hm => intro p hp; simp only [List.mem_cons, List.not_mem_nil, or_false] at hp; rcases hp with rfl | rfl | rfl <;> rfl)
  clear F8 N8
  rintro f s' ⟨rfl, h3, tk3, rfl, F9, N9⟩
  k_steps
  subst hE
  rename TL _ _ => T9
  rename Sep _ _ => S9
  have S8 : Sep [I, rl, nl] _ := S9
  have S10 : Sep [rl, nl] _ := fun a ha => S8 a (.tail _ ha)
  refine' TurnEnd.intro ⟨(pre ++ pv r.n).length + (rlp r.n).length, _, _⟩ F9 N9 ?hn ?ho ?ha ?hk ⟨T9, S10, ?hp⟩
  (case ho => walk_at "vq mem")
  (case hk => intro p hp; simp only [ps3, List.mem_cons, List.not_mem_nil, or_false] at hp; rcases hp with rfl | rfl | rfl | rfl <;> rfl)
  (case hn =>
    intro p hp
    simp only [Led3, List.mem_cons] at hp
    rcases hp with rfl | rfl | hp
    · walk_at "vq mem"
    · walk_at "vq mem"
    · (repeat (first | exact hp | refine List.mem_cons_of_mem _ ?_)))
  (case ha =>
    intro p hp
    simp only [Led3, List.mem_cons] at hp
    rcases hp with rfl | rfl | hp
    · exact q1
    · exact q2
    · exact S8 I (.head _) p hp)
  (case hp =>
    dsimp only
    rw [List.take_add_one, hr, List.map_append, List.flatten_append, hpre]
    simp [Row.octs]
    omega)
end
section
section
open PySem.SeqAt Builtin
set_option maxRecDepth 100000
theorem By.slot_lt : Slot "bytes" (cmpInfo .Lt).2.1 "bytes.__lt__" :=
  .of (owner := "bytes") (n := "__lt__") (by rw [typeLookup_type, builtinLookup_eq_fast]; kernel_rfl) (by decide +kernel) (by decide +kernel) (by decide +kernel)
    (by first | exact .inl (by decide +kernel) | exact .inr (by decide +kernel)) (by rw [isSubtype_type]; kernel_rfl)
theorem By.entry_lt : entryFor table "bytes.__lt__" = some Builtin.«bytes.__lt__» := entryFor_of_tree (by kernel_rfl)
theorem By.args_lt (a b : Value) : argsOk "bytes.__lt__" ⟨[a, b], []⟩ := by
  unfold argsOk; rw [signature?_of (id := "bytes.__lt__") (n := ['_', '_', 't', 'l', '_', '_']) (o := ['s', 'e', 't', 'y', 'b']) (by kernel_rfl) FB.owner_bytes]; kernel_rfl
theorem By.gives_lt (b c : Array UInt8) (t u : Tok) : Gives («bytes.__lt__» ⟨[.bytes b t, .bytes c u], []⟩) (.val (.bool (Bytes.order b.toList c.toList == .lt))) := by
  refine .of_wp fun M A E s Q hq => ?_
  show wpAny M A (isInstance (.bytes c u) (.type "bytes") >>= fun r => _) _ E s
  refine wpAny_bind (wpAny_isInstance (typeIs_bytes s c u) F.sub_bytes_bytes ?_)
  exact wpAny_pure ⟨_, rfl, hq⟩
/-- the lesser of two lists of octets -/
def ltI : List Int → List Int → Bool
  | _, [] => false
  | [], _ :: _ => true
  | x :: xs, y :: ys => if x < y then true else if y < x then false else ltI xs ys
theorem ltI_irrefl : ∀ l : List Int, ltI l l = false
  | [] => rfl
  | x :: l => by simp [ltI, ltI_irrefl l]
theorem order_ltI : ∀ a b : List UInt8, (Bytes.order a b == .lt) = ltI (a.map fun x : UInt8 => ((x.toNat : Nat) : Int)) (b.map fun x : UInt8 => ((x.toNat : Nat) : Int))
  | [], [] | [], _ :: _ | _ :: _, [] => rfl
  | x :: a, y :: b => by
    have h1 : (x < y) ↔ ((x.toNat : Nat) : Int) < ((y.toNat : Nat) : Int) := by rw [UInt8.lt_iff_toNat_lt]; omega
    have h2 : (x > y) ↔ ((y.toNat : Nat) : Int) < ((x.toNat : Nat) : Int) := by show (y < x) ↔ _; rw [UInt8.lt_iff_toNat_lt]; omega
    simp only [Bytes.order, List.map_cons, ltI, ← h1, ← h2]
    by_cases c1 : x < y
    · simp [c1]
    · by_cases c2 : x > y
      · simp [c1, c2]
      · simp only [c1, c2, if_false]; exact order_ltI a b
variable {A : Around} {s : Shared} {prog : Program} {w : World} {E : Value → Shared → Prop} {Q : Value → Shared → Prop} {h₀ : Heap} {L : Addr} {news : List (Addr × Obj)}
theorem rc_lt_bytes {b c : Array UInt8} {t u : Tok} (h : Q (.bool (ltI (KBw.bInts b) (KBw.bInts c))) s) : wpAny (model prog w) A (richCompare .Lt (.bytes b t) (.bytes c u)) Q E s := by
  refine richCompare_gives (op := .Lt) (typeIs_bytes s b t) (typeIs_bytes s c u) By.slot_lt By.entry_lt (By.args_lt _ _) (By.gives_lt b c t u) (fun e => nomatch e) ?_ rfl
  rw [order_ltI]; exact h
theorem ltB {b c : Array UInt8} {t u : Tok} {ks ks' : List Int} (hb : KBw.bInts b = ks) (hc : KBw.bInts c = ks') (h : Q (.bool (ltI ks ks')) s) : wpAny (model prog w) A (compareOp .Lt (.bytes b t) (.bytes c u)) Q E s := by
  subst hb; subst hc
  exact rc_lt_bytes h
theorem eqAt_bytes2 {b c : Array UInt8} {t u : Tok} (e : b ≠ c) : EqAt A s (.bytes b t) (.bytes c u) false := fun prog w E Q h => by
  unfold eqBool
  refine wpAny_holding ?_
  refine wpAny_ite_split (fun hab => ?_) (fun _ => ?_)
  · exact absurd (by have h2 := beq_iff_eq.mp hab; injection h2) e
  refine wpAny_bind ?_
  show wpAny (model prog w) A (compareOp .Eq (.bytes b t) (.bytes c u)) _ E s
  refine PySem.W.eq_bytes ?_
  have e : (b.toList == c.toList) = false := by
    rw [beq_eq_false_iff_ne]; intro h; exact e (Array.toList_inj.mp h)
  rw [e]
  exact wpAny_truthy_bool h
theorem eqAt_int2 {x y : Int} {t u : Tok} : EqAt A s (.int x t) (.int y u) (x == y) := (MeetsSeq.EqGives.int x y t u).at A s
theorem rc_lt_int {x y : Int} {t u : Tok} (h : Q (.bool (decide (x < y))) s) : wpAny (model prog w) A (richCompare .Lt (.int x t) (.int y u)) Q E s := by
  exact (lt_int h : wpAny (model prog w) A (compareOp .Lt (.int x t) (.int y u)) Q E s)
theorem tuple_ltAt (l b : Addr) (x y : Int) (bb cc : Array UInt8) (t t2 u u2 : Tok) (items items2 : Array Value) (hi1 : items = #[.int x t, .bytes bb t2]) (hi2 : items2 = #[.int y u, .bytes cc u2]) (n n2 : Nat) (dd dd2 : Option Addr) (sl sl2 : Array (Option Value)) :
    Meets (Builtin.«tuple.__lt__» ⟨[.ref l, .ref b], []⟩)
      (fun A R s => s.heap.get? l = some { cls := .type "tuple", dict := dd, data := .seq items n, slots := sl } ∧ s.heap.get? b = some { cls := .type "tuple", dict := dd2, data := .seq items2 n2, slots := sl2 } ∧
        R (.ok (.ret (.bool (if x = y then ltI (KBw.bInts bb) (KBw.bInts cc) else decide (x < y))))) s) :=
  .of_wp fun prog w A R s h => by
    obtain ⟨hp, g, d, tk, os⟩ := s; obtain ⟨hl, hb, h⟩ := h
    have f2 := AutoSeq1.sub_tuple_tuple
    have hz0 : (items.toList.zip items2.toList) = [(Value.int x t, Value.int y u), (Value.bytes bb t2, Value.bytes cc u2)] := by rw [hi1, hi2]; rfl
    have hs1 : items.size = 2 := by rw [hi1]; rfl
    have hs2 : items2.size = 2 := by rw [hi2]; rfl
    wp_walk using AutoSeq1.wpAny_loadPart' hl, AutoSeq1.wpAny_loadPart' hb, wpAny_forIn_list _ (fun rest b s' => b.1 = none ∧ s' = ⟨hp, g, d, tk, os⟩ ∧ ((rest = [(Value.int x t, Value.int y u), (Value.bytes bb t2, Value.bytes cc u2)]) ∨ (rest = [(Value.bytes bb t2, Value.bytes cc u2)] ∧ x = y) ∨ (rest = [] ∧ x = y ∧ bb = cc))) _
    case turn =>
      rintro ⟨p, q⟩ rest b s' ⟨hb', rfl, hz⟩
      rcases hz with hz | ⟨hz, rfl⟩ | ⟨hz, _⟩
      · obtain ⟨⟨rfl, rfl⟩, rfl⟩ : (p = Value.int x t ∧ q = Value.int y u) ∧ rest = [(Value.bytes bb t2, Value.bytes cc u2)] := by simpa using hz
        refine wpAny_bind (eqAt_int2 prog w _ _ ?_)
        by_cases e : x = y
        · subst e
          rw [show (x == x) = true by simp]
          wp_walk
          exact ⟨rfl, rfl, .inr (.inl ⟨rfl, rfl⟩)⟩
        · rw [show (x == y) = false by simpa using e]
          wp_walk using rc_lt_int
          rw [if_neg e] at h
          exact ⟨_, rfl, by simpa using h⟩
      · obtain ⟨⟨rfl, rfl⟩, rfl⟩ : (p = Value.bytes bb t2 ∧ q = Value.bytes cc u2) ∧ rest = [] := by simpa using hz
        rw [if_pos rfl] at h
        by_cases e : bb = cc
        · subst e
          refine wpAny_bind (eqAt_bytes prog w _ _ ?_)
          wp_walk
          exact ⟨rfl, rfl, .inr (.inr ⟨rfl, rfl, rfl⟩)⟩
        · refine wpAny_bind (eqAt_bytes2 e prog w _ _ ?_)
          wp_walk using rc_lt_bytes
          exact ⟨_, rfl, by simpa using h⟩
      · cases hz
    case fin =>
      rintro ⟨b1, b2⟩ s' ⟨hb', rfl, hz⟩
      simp only at hb'
      subst hb'
      rcases hz with hz | ⟨hz, _⟩ | ⟨_, rfl, rfl⟩
      · cases hz
      · cases hz
      rw [if_pos rfl, ltI_irrefl] at h
      rw [hs1, hs2]
      wp_walk
      exact ⟨_, rfl, by simpa [Builtin.Tuple.tupleCompareSizes] using h⟩
    case h => exact ⟨rfl, rfl, .inl hz0⟩
theorem ltT2 {D D2 : Addr} {x y : Int} {b c : Array UInt8} {ks kc : List Int} {t u t2 u2 : Tok} {k k2 : Nat} (N : News h₀ L s.heap news) (m1 : (D, ⟨.type "tuple", none, .seq #[.int x t, .bytes b t2] k, #[]⟩) ∈ news) (m2 : (D2, ⟨.type "tuple", none, .seq #[.int y u, .bytes c u2] k2, #[]⟩) ∈ news)
    (hb : KBw.bInts b = ks) (hc : KBw.bInts c = kc) (hu : A.units < cLine) (h : Q (.bool (if x = y then ltI ks kc else decide (x < y))) s) : wpAny (model prog w) A (compareOp .Lt (.ref D) (.ref D2)) Q E s := by
  subst hb; subst hc
  have ho := (N _ m1).1
  have ho2 := (N _ m2).1
  show wpAny (model prog w) A (richCompare .Lt (.ref D) (.ref D2)) Q E s
  exact richCompare_meets_room (op := .Lt) ⟨_, ho, rfl⟩ ⟨_, ho2, rfl⟩ F.slot_tuple_lt F.entry_tuple_lt (F.args_tuple_lt_2 _ _) (tuple_ltAt D D2 x y b c t t2 u u2 _ _ rfl rfl k k2 none none #[] #[])
    ⟨ho, ho2, show Value.bool _ ≠ Value.notImplemented ∧ Q (.bool _) s from ⟨(fun x => nomatch x), h⟩⟩ hu
/-- the octets from the last one on -/
theorem ints_rev {b : Array UInt8} {ks : List Int} (hk : KBw.bInts b = ks) : KBw.bInts (Bytes.sliced b ((b.size : Int) - 1) (-1) (-1)) = ks.reverse := by
  subst hk
  unfold Bytes.sliced
  rw [krv_sliceRange, krv_range, List.filterMap_reverse, krv_all]
  show (b.toList.reverse).map _ = (b.toList.map _).reverse
  rw [List.map_reverse]
theorem size_rev (b : Array UInt8) : (Bytes.sliced b ((b.size : Int) - 1) (-1) (-1)).size = b.size := by
  unfold Bytes.sliced
  rw [krv_sliceRange, krv_range, List.filterMap_reverse, krv_all]
  simp
theorem meets_rev (b : Array UInt8) (t tv : Tok) (a : Addr) :
    Meets («bytes.__getitem__» ⟨[.bytes b t, .ref a], []⟩) (fun _ R s => s.heap.IsSliceOf a .none .none (.int (-1) tv) ∧ b.size ≤ sizeLine ∧ ∀ t' k, R (.ok (.ret (.bytes (Bytes.sliced b ((b.size : Int) - 1) (-1) (-1)) t'))) { s with toks := k }) := by
  refine .of_wp fun prog w A R s hS => ?_
  obtain ⟨⟨o, ho, hc, hd⟩, hsz, h⟩ := hS
  have hT : s.TypeIs (.ref a) "slice" := ⟨o, ho, hc⟩
  show wpAny _ _ (Bytes.payload (.bytes b t) >>= fun r => _) _ _ s
  refine wpAny_bind (wpAny_of_eq (a := b) rfl ?_)
  show wpAny _ _ (Bytes.subscript? (.ref a) >>= fun r => _) _ _ s
  refine wpAny_bind ?_
  unfold Bytes.subscript?
  refine wpAny_bind (wpAny_specialOf hT slice_no_index (wpAny_pure ?_))
  refine wpAny_bind (wpAny_typeOf hT ?_)
  show wpAny _ _ (Bytes.sliceParts (.ref a) >>= fun r => _) _ _ s
  refine wpAny_bind ?_
  unfold Bytes.sliceParts
  refine wpAny_bind (wpAny_field (x := .int (-1) tv) ho hd rfl ?_)
  refine wpAny_bind (wpAny_ite (KBy.ite_no (show ¬ ((Value.int _ _ == Value.none) = true) from Bool.false_ne_true) ?_))
  refine wpAny_bind (wpAny_specialOf (T := "int") (typeIs_int _ _ _) F.slot_int_index.lookup ?_)
  refine wpAny_ite (KBy.ite_no (show ¬ (Option.isNone (some _) = true) from Bool.false_ne_true) ?_)
  refine wpAny_bind (wpAny_of_eq rfl (wpAny_pure ?_))
  refine wpAny_ite (KBy.ite_no (show ¬ ((rawInt (-1) == rawInt 0) = true) by decide) ?_)
  refine wpAny_bind (wpAny_field (x := .none) ho hd rfl ?_)
  refine wpAny_bind (wpAny_of_eq (a := Value.none) rfl ?_)
  refine wpAny_bind (wpAny_field (x := .none) ho hd rfl ?_)
  refine wpAny_bind (wpAny_of_eq (a := Value.none) rfl ?_)
  refine wpAny_pure ?_
  have go : wpAny (model prog w) A.in1 (sliceIndices (rawPart none) (rawPart none) (rawPart (some (-1))) b.size) (fun r s' => r = sliceBounds none none (some (-1)) b.size ∧ s' = s) (fun _ _ => False) s :=
    wpAny_of_eq (sliceIndices_raw none none (some (-1)) b.size (by decide)) ⟨rfl, rfl⟩
  refine wpAny_bind (wpAny_mono go (fun r s' hr => ?_) fun _ _ e => e.elim)
  obtain ⟨hr1, hr2⟩ := hr
  subst hr1 hr2
  rw [krv_bounds]
  refine wpAny_ite (KBy.ite_no (by
    have : ((-1 : Int) == 1) = false := by decide
    simp [this]) ?_)
  exact wpAny_bind (wpAny_mkBytes (wpAny_pure ⟨_, rfl, h _ _⟩) (by rw [size_rev]; exact hsz))
theorem rev_K {value slice : PySem.Expr} {b : Array UInt8} {t tv : Tok} {ks : List Int} {m : PySem.Str → Option Value} (hF : Fr h₀ L s.heap m) (hN : News h₀ L s.heap news) (hk : KBw.bInts b = ks) (hz : ks.length ≤ 16777216)
    (h : ∀ b' h' t' k, KBw.bInts b' = ks.reverse → Fr h₀ L h' m → News h₀ L h' news → Q (.bytes b' t') { s with heap := h', toks := k })
    (hs : subscripted slice false (.bytes b t) (.ref s.heap.objs.size) = operate [.ref s.heap.objs.size, .bytes b t] (getItem (.bytes b t) (.ref s.heap.objs.size)) := by with_unfolding_all rfl)
    (ht : ∀ r, letTemporaryGo value (.bytes b t) r = pure () := by intro _; with_unfolding_all rfl) :
    wpAny (model prog w) A (subscriptTail value slice (.bytes b t) (.ref s.heap.objs.size)) Q E { s with heap := s.heap.push { cls := .type "slice", data := .fields #[.none, .none, .int (-1) tv] } } :=
  tail_of_ItemOn ⟨"bytes", _, FB.slot_bytes_getitem.lookup, typeIs_bytes _ _ _, getItem_meets (typeIs_bytes _ _ _) (by decide) FB.slot_bytes_getitem FB.entry_bytes_getitem (FB.args_bytes_getitem_2 _ _) (meets_rev b t tv _)
    ⟨Heap.IsSliceOf.new _ _ _ _, by rw [sizeLine_eq, ← KBw.ints_length b, hk]; exact hz, fun t' k => h _ _ _ _ (ints_rev hk) (hF.push _) (News.pushKeep hN _)⟩⟩ hs ht
end
end
section
section
open Builtin
variable {prog : Program} {w : World} {M : Model} {A : Around} {E : Value → Shared → Prop} {s : Shared} {t u : Tok}
set_option maxRecDepth 100000
theorem Sw.method {b : Array UInt8} {pl : Sem Bool} {Q : Value × List Value → Shared → Prop} (h : Q (.builtin "bytes.startswith", [.bytes b t]) s) :
    wpAny M A (getMethod (.bytes b t) (PySem.Str.ofString "startswith") pl) Q E s :=
  getMethod_value (T := "bytes") (name := PySem.Str.ofString "startswith") (ga := "bytes.__getattribute__") (id := "bytes.startswith") (typeIs_bytes s b t) (by intro _ x; cases x) Jn.look_ga Jn.canon_ga Jn.no_getattr FB.slot_bytes_startswith.lookup FB.type_bytes_startswith h
theorem Sw.not_tuple {c : Array UInt8} : isInstance (.bytes c u) (.type "tuple") = pure false := by
  have e : isInstance (.bytes c u) (.type "tuple") = isSubtype (.type "bytes") (.type "tuple") := rfl
  rw [e, isSubtype_type]; kernel_rfl
theorem Sw.no {b c : Array UInt8} {ks ks' : List Int} {Q : Value → Shared → Prop} (hb : KBw.bInts b = ks) (hc : KBw.bInts c = ks') (hne : ks.take ks'.length ≠ ks') (h : Q (.bool false) s) :
    wpAny (model prog w) A (call (.builtin "bytes.startswith") [.bytes b t, .bytes c u]) Q E s := by
  refine wpAny_call_entry FB.slot_bytes_startswith (typeIs_bytes s _ t) FB.entry_bytes_startswith ?_ (FB.args_bytes_startswith_2 _ _)
  unfold Builtin.«bytes.startswith» Bytes.tailMatchM
  refine wpAny_bind (wpAny_of_eq (a := (Value.bytes b t, [Value.bytes c u])) rfl ?_)
  try dsimp only
  refine wpAny_bind (wpAny_of_eq (a := none) rfl ?_)
  refine wpAny_bind (wpAny_of_eq (a := none) rfl ?_)
  refine wpAny_bind (wpAny_of_eq (a := b) rfl ?_)
  try dsimp only
  refine wpAny_bind (wpAny_of_eq (a := false) Sw.not_tuple ?_)
  refine wpAny_ite (KBy.ite_no Bool.false_ne_true ?_)
  refine wpAny_bind (wpAny_of_eq (a := some c) KBy.buffer_eq ?_)
  try dsimp only
  have key : (if (Bytes.window b.size none none).snd - (Bytes.window b.size none none).fst < ((c.size : Nat) : Int) then false
      else if false = true then b.extract ((Bytes.window b.size none none).snd.toNat - c.size) (Bytes.window b.size none none).snd.toNat == c
      else b.extract (Bytes.window b.size none none).fst.toNat ((Bytes.window b.size none none).fst.toNat + c.size) == c) = false := by
    have e1 : (Bytes.window b.size none none).fst = 0 := rfl
    have e2 : (Bytes.window b.size none none).snd = ((b.size : Nat) : Int) := by
      show min ((b.size : Nat) : Int) (if ((b.size : Nat) : Int) < 0 then _ else ((b.size : Nat) : Int)) = _
      rw [if_neg (by omega)]; omega
    rw [e1, e2]
    split
    · rfl
    · rw [if_neg Bool.false_ne_true, beq_eq_false_iff_ne]
      intro h2
      apply hne
      rw [← hb, ← hc, KBw.ints_length]
      have h3 : (b.extract (Int.toNat 0) (Int.toNat 0 + c.size)).toList = c.toList := congrArg Array.toList h2
      have h4 : b.toList.take c.size = c.toList := by rw [← h3]; simp
      show (b.toList.map _).take c.size = c.toList.map _
      rw [← List.map_take, h4]
  rw [key]
  exact wpAny_pure ⟨_, rfl, h⟩
end
end
section
theorem ltI_snoc : ∀ {a b : List Int} {x y : Int}, a.length = b.length → ltI (a ++ [x]) (b ++ [y]) = (if a = b then decide (x < y) else ltI a b)
  | [], [], x, y, _ => by
    simp only [List.nil_append, ltI, if_true]
    by_cases h : x < y
    · simp [h]
    · by_cases h2 : y < x <;> simp [h, h2]
  | p :: a, q :: b, x, y, h => by
    have ih := ltI_snoc (a := a) (b := b) (x := x) (y := y) (by simpa using h)
    simp only [List.cons_append, ltI, ih, List.cons.injEq]
    by_cases h1 : p < q
    · have : p ≠ q := by omega
      simp [h1, this]
    · by_cases h2 : q < p
      · have : p ≠ q := by omega
        simp [h1, h2, this]
      · have : p = q := by omega
        simp [this]
theorem pv_high {n : Nat} (h : 128 ≤ n) : pv n = ((128 + n % 128 : Nat) : Int) :: pv (n / 128) := pv_step h
theorem pv_inj : ∀ n m : Nat, pv n = pv m → n = m := by
  intro n
  induction n using Nat.strongRecOn with
  | _ n ih =>
    intro m h
    by_cases h1 : n < 128
    · rw [pv_low h1] at h
      by_cases h2 : m < 128
      · rw [pv_low h2] at h; simp at h; omega
      · rw [pv_high (by omega)] at h; simp at h; omega
    · rw [pv_high (by omega)] at h
      by_cases h2 : m < 128
      · rw [pv_low h2] at h; simp at h; omega
      · rw [pv_high (n := m) (by omega)] at h
        simp only [List.cons.injEq] at h
        have := ih (n / 128) (by omega) (m / 128) h.2
        omega
theorem pv_order : ∀ n m : Nat, (if (((pv n).length : Nat) : Int) = (((pv m).length : Nat) : Int) then ltI (pv n).reverse (pv m).reverse else decide ((((pv n).length : Nat) : Int) < (((pv m).length : Nat) : Int))) = decide ((n : Int) < (m : Int)) := by
  intro n
  induction n using Nat.strongRecOn with
  | _ n ih =>
    intro m
    by_cases h1 : n < 128
    · rw [pv_low h1]
      by_cases h2 : m < 128
      · rw [pv_low h2]
        simp only [List.length_cons, List.length_nil, List.reverse_cons, List.reverse_nil, List.nil_append, if_true, ltI]
        by_cases h : (n : Int) < (m : Int)
        · simp only [h, if_true, decide_true]
        · by_cases h' : (m : Int) < (n : Int) <;> simp [h, h'] <;> omega
      · rw [pv_high (by omega)]
        have := pv_pos (m / 128)
        rw [if_neg (by simp only [List.length_cons, List.length_nil]; omega)]
        rw [decide_eq_true (by simp only [List.length_cons, List.length_nil]; omega), decide_eq_true (by omega)]
    · rw [pv_high (n := n) (by omega)]
      have := pv_pos (n / 128)
      by_cases h2 : m < 128
      · rw [pv_low h2]
        rw [if_neg (by simp only [List.length_cons, List.length_nil]; omega)]
        rw [decide_eq_false (by simp only [List.length_cons, List.length_nil]; omega), decide_eq_false (by omega)]
      · rw [pv_high (n := m) (by omega)]
        have := pv_pos (m / 128)
        have IH := ih (n / 128) (by omega) (m / 128)
        by_cases hl : (pv (n / 128)).length = (pv (m / 128)).length
        · rw [if_pos (by omega)] at IH
          rw [if_pos (by simp only [List.length_cons]; omega), List.reverse_cons, List.reverse_cons, ltI_snoc (by simpa using hl)]
          by_cases he : n / 128 = m / 128
          · rw [he, if_pos rfl]
            by_cases hm : n < m
            · rw [decide_eq_true (by omega), decide_eq_true (by omega)]
            · rw [decide_eq_false (by omega), decide_eq_false (by omega)]
          · rw [if_neg (fun e => he (pv_inj _ _ (List.reverse_inj.mp e))), IH]
            by_cases hm : n < m
            · rw [decide_eq_true (by omega), decide_eq_true (by omega)]
            · rw [decide_eq_false (by omega), decide_eq_false (by omega)]
        · rw [if_neg (by omega)] at IH
          rw [if_neg (by simp only [List.length_cons]; omega)]
          have he : n / 128 ≠ m / 128 := fun e => hl (by rw [e])
          have e1 : decide ((((((128 + n % 128 : Nat) : Int) :: pv (n / 128)).length : Nat) : Int) < (((((128 + m % 128 : Nat) : Int) :: pv (m / 128)).length : Nat) : Int)) = decide ((((pv (n / 128)).length : Nat) : Int) < (((pv (m / 128)).length : Nat) : Int)) := by
            simp only [List.length_cons]
            exact decide_eq_decide.mpr (by omega)
          rw [e1, IH]
          exact decide_eq_decide.mpr (by omega)
theorem pv_free : ∀ n m : Nat, n ≠ m → (pv m).take (pv n).length ≠ pv n := by
  intro n
  induction n using Nat.strongRecOn with
  | _ n ih =>
    intro m hne h
    by_cases h1 : n < 128
    · rw [pv_low h1] at h
      by_cases h2 : m < 128
      · rw [pv_low h2] at h; simp at h; omega
      · rw [pv_high (by omega)] at h; simp at h; omega
    · rw [pv_high (n := n) (by omega)] at h
      by_cases h2 : m < 128
      · rw [pv_low h2] at h; simp at h; omega
      · rw [pv_high (n := m) (by omega)] at h
        simp only [List.length_cons, List.take_succ_cons, List.cons.injEq] at h
        exact ih (n / 128) (by omega) (m / 128) (fun e => hne (by omega)) h.2
theorem be_inj {n m : Nat} (h : be n = be m) : n = m := by
  have h1 := be_foldl n
  rw [h, be_foldl m] at h1
  omega
theorem be_order : ∀ n m : Nat, (if (be n).length = (be m).length then ltI (be n) (be m) else decide ((be n).length < (be m).length)) = decide (n < m) := by
  intro n
  induction n using Nat.strongRecOn with
  | _ n ih =>
    intro m
    by_cases h1 : n = 0
    · subst h1
      by_cases h2 : m = 0
      · subst h2; rw [be_zero]; rfl
      · have := be_pos_len h2
        rw [be_zero, if_neg (by simp only [List.length_nil]; omega), decide_eq_true (by simp only [List.length_nil]; omega), decide_eq_true (by omega)]
    · by_cases h2 : m = 0
      · have := be_pos_len h1
        subst h2
        rw [be_zero, if_neg (by simp only [List.length_nil]; omega), decide_eq_false (by simp only [List.length_nil]; omega), decide_eq_false (by omega)]
      · rw [be_pos h1, be_pos h2]
        have IH := ih (n / 256) (by omega) (m / 256)
        by_cases hl : (be (n / 256)).length = (be (m / 256)).length
        · rw [if_pos hl] at IH
          rw [if_pos (by simp only [List.length_append, List.length_cons, List.length_nil]; omega), ltI_snoc hl]
          by_cases he : n / 256 = m / 256
          · rw [he, if_pos rfl]
            exact decide_eq_decide.mpr (by omega)
          · rw [if_neg (fun e => he (be_inj e)), IH]
            exact decide_eq_decide.mpr (by omega)
        · rw [if_neg hl] at IH
          rw [if_neg (by simp only [List.length_append, List.length_cons, List.length_nil]; omega)]
          have he : n / 256 ≠ m / 256 := fun e => hl (by rw [e])
          have e1 : decide ((be (n / 256) ++ [((n % 256 : Nat) : Int)]).length < (be (m / 256) ++ [((m % 256 : Nat) : Int)]).length) = decide ((be (n / 256)).length < (be (m / 256)).length) := by
            simp only [List.length_append, List.length_cons, List.length_nil]
            exact decide_eq_decide.mpr (by omega)
          rw [e1, IH]
          exact decide_eq_decide.mpr (by omega)
theorem rlp_order {n m : Nat} (hn : 0 < n) (hm : 0 < m) : ltI (rlp n) (rlp m) = decide ((n : Int) < (m : Int)) := by
  unfold rlp
  rw [if_neg (show ¬ n = 0 by omega), if_neg (show ¬ m = 0 by omega)]
  have hb := be_order n m
  have p1 := be_pos_len (n := n) (by omega)
  have p2 := be_pos_len (n := m) (by omega)
  split <;> split
  · simp only [ltI]
    by_cases h : (n : Int) < (m : Int)
    · simp [h]
    · by_cases h' : (m : Int) < (n : Int) <;> simp [h, h'] <;> omega
  · simp only [ltI]
    rw [if_pos (by omega), decide_eq_true (by omega)]
  · simp only [ltI]
    rw [if_neg (by omega), if_pos (by omega), decide_eq_false (by omega)]
  · simp only [ltI]
    by_cases hl : (be n).length = (be m).length
    · rw [if_pos hl] at hb
      rw [if_neg (by omega), if_neg (by omega), hb]
      exact decide_eq_decide.mpr (by omega)
    · rw [if_neg hl] at hb
      have e := decide_eq_decide.mp hb
      by_cases h : (be n).length < (be m).length
      · rw [if_pos (by omega), decide_eq_true (by have := e.mp h; omega)]
      · rw [if_neg (by omega), if_pos (by omega), decide_eq_false (by intro h2; exact h (e.mpr (by omega)))]
theorem rlp_free {n m : Nat} (hne : n ≠ m) : (rlp m).take (rlp n).length ≠ rlp n := by
  intro h
  have p1 := be_pos_len (n := n)
  have p2 := be_pos_len (n := m)
  unfold rlp at h
  by_cases a1 : n = 0
  · rw [if_pos a1] at h
    by_cases b1 : m = 0
    · omega
    · have := p2 b1
      rw [if_neg b1] at h
      split at h <;> simp at h <;> omega
  · have := p1 a1
    rw [if_neg a1] at h
    by_cases b1 : m = 0
    · rw [if_pos b1] at h
      split at h <;> simp at h <;> omega
    · have := p2 b1
      rw [if_neg b1] at h
      split at h <;> split at h
      · simp at h; omega
      · simp at h; omega
      · simp at h; omega
      · simp only [List.length_cons, List.take_succ_cons, List.cons.injEq] at h
        have e : (be m).length = (be n).length := by omega
        rw [← e, List.take_length] at h
        exact hne (be_inj h.2).symm
end
section
theorem neBool {prog : Program} {w : World} {A : Around} {E : Value → Shared → Prop} {s : Shared} {Q : Value → Shared → Prop} {c d : Bool} (e : c = d) (h : Q (.bool false) s) : wpAny (model prog w) A (compareOp .NotEq (.bool c) (.bool d)) Q E s := by
  subst e
  refine ne_bool ?_
  have e2 : (c != c) = false := by simp
  rw [e2]; exact h
local macro_rules | `(tactic| walk_at "subscriptTail") => `(tactic| (k_here; k_dflt (refine' rev_K (s := ⟨_, _, _, _, _⟩) ?F ?N ?a ?b ?_; (case F => k_asm); (case N => k_asm); (case a => assumption); (case b => omega)); intro b' h' t' k' hb' F' N'; (try k_sweep)))
local macro_rules | `(tactic| walk_at "compareOp Lt ref ref") => `(tactic| (k_here; k_dflt (refine' ltT2 ?N ?m1 ?m2 ?hb ?hc ?u ?_; (case N => k_asm); (case m1 => walk_at "vq mem"); (case m2 => walk_at "vq mem"); (case hb => assumption); (case hc => assumption); (case u => exact Nat.le_of_ble_eq_true rfl))))
local macro_rules | `(tactic| walk_at "compareOp NotEq bool bool") => `(tactic| (k_here; first | (with_reducible refine neBool (pv_order _ _) ?_) | refine neBool (pv_order _ _) ?_))
set_option maxRecDepth 100000 in
set_option maxHeartbeats 8000000 in
theorem t4I1 (w : World) (loose : List Str) (mean : ExcName → Option Value) (mg mb : Str → Option Value) (h₀ : Heap) (L fa : Addr) (cd : Value) (E : Value → Shared → Prop)
    (X : (hd.heap_39 w.params).In h₀) (T : Top topProg loose mean mg mb h₀)
    (s : Shared) (m : Str → Option Value) (big : List (Addr × Obj)) (n k : Nat) (h64 : n < 2 ^ 64) (k64 : k < 2 ^ 64) (b1 b2 : Array UInt8) (t1 t2 t3 t4 : Tok) (hb1 : KBw.bInts b1 = pv n) (hb2 : KBw.bInts b2 = pv k)
    (hm : ∀ p ∈ ([(Str.ofString "number", .int (n : Int) t1), (Str.ofString "one", .bytes b1 t2), (Str.ofString "least", .int (k : Int) t3), (Str.ofString "first", .bytes b2 t4)] : List (Str × Value)), m p.1 = some p.2) (F : Fr h₀ L s.heap m) (N : News h₀ L s.heap big) :
    wpAny (model PySem.Challenge.rw_vq0009_01.row.prog w) (callerA.deeper (envOf (PySem.Str.ofString "law") (by_elab lawScopeE) L fa cd)) (exec (by_elab lawSub2E 7 0 0) (envOf (PySem.Str.ofString "law") (by_elab lawScopeE) L fa cd)) (fun f s' => f = .next ∧ ∃ h' tk, s' = { s with heap := h', toks := tk } ∧ Fr h₀ L h' m ∧ News h₀ L h' big) E s := by
  revert X
  run_tac afresh
  k_fill
  intro X
  have em : m = kstB m [(Str.ofString "number", .int (n : Int) t1), (Str.ofString "one", .bytes b1 t2), (Str.ofString "least", .int (k : Int) t3), (Str.ofString "first", .bytes b2 t4)] := (kstB_self hm).symm
  have hv1 : (pv n).length ≤ 16 := by have := pv_len 9 n (Nat.lt_of_lt_of_le h64 (by decide)); omega
  have hv2 : (pv k).length ≤ 16 := by have := pv_len 9 k (Nat.lt_of_lt_of_le k64 (by decide)); omega
  generalize hR : (fun (f : Flow) (s' : Shared) => f = .next ∧ ∃ h' tk, s' = { s with heap := h', toks := tk } ∧ Fr h₀ L h' m ∧ News h₀ L h' big) = R
  have hF : Fr h₀ L s.heap (kstB m [(Str.ofString "number", .int (n : Int) t1), (Str.ofString "one", .bytes b1 t2), (Str.ofString "least", .int (k : Int) t3), (Str.ofString "first", .bytes b2 t4)]) := em ▸ F
  simp only [kstB] at hF
  clear F hm
  k_steps
  all_goals (
    subst hR
    rename Fr h₀ L _ _ => F9
    rename News h₀ L _ _ => N9
    exact ⟨rfl, _, _, rfl, by rw [em]; exact F9, cb_drop N9 (by walk_at "vq tail")⟩)
local macro_rules | `(tactic| walk_at "compareOp Lt bytes bytes") => `(tactic| (k_here; k_dflt (refine' ltB ?hb ?hc ?_; (case hb => assumption); (case hc => assumption))))
local macro_rules | `(tactic| walk_at "compareOp NotEq bool bool") => `(tactic| (k_here; refine neBool (rlp_order (by omega) (by omega)) ?_))
set_option maxRecDepth 100000 in
set_option maxHeartbeats 8000000 in
theorem t4I2 (w : World) (loose : List Str) (mean : ExcName → Option Value) (mg mb : Str → Option Value) (h₀ : Heap) (L fa : Addr) (cd : Value) (E : Value → Shared → Prop)
    (X : (hd.heap_39 w.params).In h₀) (T : Top topProg loose mean mg mb h₀)
    (s : Shared) (m : Str → Option Value) (big : List (Addr × Obj)) (n k : Nat) (b1 b2 : Array UInt8) (t1 t2 t3 t4 : Tok) (hb1 : KBw.bInts b1 = rlp n) (hb2 : KBw.bInts b2 = rlp k)
    (hm : ∀ p ∈ ([(Str.ofString "number", .int (n : Int) t1), (Str.ofString "other", .bytes b1 t2), (Str.ofString "least", .int (k : Int) t3), (Str.ofString "second", .bytes b2 t4)] : List (Str × Value)), m p.1 = some p.2) (F : Fr h₀ L s.heap m) (N : News h₀ L s.heap big) :
    wpAny (model PySem.Challenge.rw_vq0009_01.row.prog w) (callerA.deeper (envOf (PySem.Str.ofString "law") (by_elab lawScopeE) L fa cd)) (exec (by_elab lawSub2E 7 0 1) (envOf (PySem.Str.ofString "law") (by_elab lawScopeE) L fa cd)) (fun f s' => f = .next ∧ ∃ h' tk, s' = { s with heap := h', toks := tk } ∧ Fr h₀ L h' m ∧ News h₀ L h' big) E s := by
  revert X
  run_tac afresh
  k_fill
  intro X
  have em : m = kstB m [(Str.ofString "number", .int (n : Int) t1), (Str.ofString "other", .bytes b1 t2), (Str.ofString "least", .int (k : Int) t3), (Str.ofString "second", .bytes b2 t4)] := (kstB_self hm).symm
  generalize hR : (fun (f : Flow) (s' : Shared) => f = .next ∧ ∃ h' tk, s' = { s with heap := h', toks := tk } ∧ Fr h₀ L h' m ∧ News h₀ L h' big) = R
  have hF : Fr h₀ L s.heap (kstB m [(Str.ofString "number", .int (n : Int) t1), (Str.ofString "other", .bytes b1 t2), (Str.ofString "least", .int (k : Int) t3), (Str.ofString "second", .bytes b2 t4)]) := em ▸ F
  simp only [kstB] at hF
  clear F hm
  k_steps
  all_goals (
    subst hR
    rename Fr h₀ L _ _ => F9
    rename News h₀ L _ _ => N9
    exact ⟨rfl, _, _, rfl, by rw [em]; exact F9, cb_drop N9 (by walk_at "vq tail")⟩)
local macro_rules | `(tactic| walk_at "getMethod bytes") => `(tactic| (k_here; (with_reducible refine Sw.method ?_)))
local macro_rules | `(tactic| walk_at "call builtin:bytes.startswith") => `(tactic| (k_here; (with_reducible show wpAny _ _ (call (Value.builtin "bytes.startswith") [Value.bytes _ _, Value.bytes _ _]) _ _ _); k_dflt (refine' Sw.no ?hb ?hc ?e ?_; (case hb => assumption); (case hc => assumption); (case e => first | exact pv_free _ _ (by omega) | exact rlp_free (by omega)))))
set_option maxRecDepth 100000 in
set_option maxHeartbeats 8000000 in
theorem t4I3 (w : World) (loose : List Str) (mean : ExcName → Option Value) (mg mb : Str → Option Value) (h₀ : Heap) (L fa : Addr) (cd : Value) (E : Value → Shared → Prop)
    (X : (hd.heap_39 w.params).In h₀) (T : Top topProg loose mean mg mb h₀)
    (s : Shared) (m : Str → Option Value) (big : List (Addr × Obj)) (n k : Nat) (b1 b2 c1 c2 : Array UInt8) (t1 t2 t3 t4 t5 t6 : Tok) (hb1 : KBw.bInts b1 = pv n) (hb2 : KBw.bInts b2 = pv k) (hc1 : KBw.bInts c1 = rlp n) (hc2 : KBw.bInts c2 = rlp k)
    (hm : ∀ p ∈ ([(Str.ofString "number", .int (n : Int) t1), (Str.ofString "one", .bytes b1 t2), (Str.ofString "other", .bytes c1 t3), (Str.ofString "least", .int (k : Int) t4), (Str.ofString "first", .bytes b2 t5), (Str.ofString "second", .bytes c2 t6)] : List (Str × Value)), m p.1 = some p.2) (F : Fr h₀ L s.heap m) (N : News h₀ L s.heap big) :
    wpAny (model PySem.Challenge.rw_vq0009_01.row.prog w) (callerA.deeper (envOf (PySem.Str.ofString "law") (by_elab lawScopeE) L fa cd)) (exec (by_elab lawSub2E 7 0 2) (envOf (PySem.Str.ofString "law") (by_elab lawScopeE) L fa cd)) (fun f s' => f = .next ∧ ∃ h' tk, s' = { s with heap := h', toks := tk } ∧ Fr h₀ L h' m ∧ News h₀ L h' big) E s := by
  revert X
  run_tac afresh
  k_fill
  intro X
  have em : m = kstB m [(Str.ofString "number", .int (n : Int) t1), (Str.ofString "one", .bytes b1 t2), (Str.ofString "other", .bytes c1 t3), (Str.ofString "least", .int (k : Int) t4), (Str.ofString "first", .bytes b2 t5), (Str.ofString "second", .bytes c2 t6)] := (kstB_self hm).symm
  generalize hR : (fun (f : Flow) (s' : Shared) => f = .next ∧ ∃ h' tk, s' = { s with heap := h', toks := tk } ∧ Fr h₀ L h' m ∧ News h₀ L h' big) = R
  have hF : Fr h₀ L s.heap (kstB m [(Str.ofString "number", .int (n : Int) t1), (Str.ofString "one", .bytes b1 t2), (Str.ofString "other", .bytes c1 t3), (Str.ofString "least", .int (k : Int) t4), (Str.ofString "first", .bytes b2 t5), (Str.ofString "second", .bytes c2 t6)]) := em ▸ F
  simp only [kstB] at hF
  clear F hm
  k_steps
  all_goals (
    subst hR
    rename Fr h₀ L _ _ => F9
    rename News h₀ L _ _ => N9
    exact ⟨rfl, _, _, rfl, by rw [em]; exact F9, cb_drop N9 (by walk_at "vq tail")⟩)
end
section
abbrev Led4 (rl nl : Addr) (rv : List Value) (rk : Nat) (nv : List Value) (nn : Nat) (tl : List (Addr × Obj)) (_ : Unit) : List (Addr × Obj) := (rl, W.listOf rv.toArray rk) :: (nl, W.listOf nv.toArray nn) :: tl
abbrev ps4 (rl nl : Addr) (_ : Unit) : List (Str × Value) := [(Str.ofString "numbers", .ref nl), (Str.ofString "rows", .ref rl)]
abbrev ps4i (rl nl : Addr) (r : Row) (_ : Unit) : List (Str × Value) := [(Str.ofString "numbers", .ref nl), (Str.ofString "rows", .ref rl), (Str.ofString "number", .int (r.n : Int) r.t), (Str.ofString "one", .bytes r.b1 r.t1), (Str.ofString "other", .bytes r.b2 r.t2)]
local macro_rules | `(tactic| walk_at "exec If") => `(tactic| (refine Stop.on ?_))
set_option maxRecDepth 100000 in
set_option maxHeartbeats 8000000 in
theorem turn4i (w : World) (loose : List Str) (mean : ExcName → Option Value) (mg mb : Str → Option Value) (h₀ : Heap) (L fa : Addr) (cd : Value) (E : Value → Shared → Prop)
    (X : (hd.heap_39 w.params).In h₀) (T : Top topProg loose mean mg mb h₀) (rl nl : Addr) (led : List (Addr × Obj)) (r q : Row) (hr : r.Ok) (hq : q.Ok) (hqm : q.tup ∈ led)
    (i : Nat) (u : Str → Option Value) (s₁ : Shared) (I : Addr) (oI : Obj) (hoff : ∀ p ∈ led, p.1 ≠ I) (F : Fr h₀ L s₁.heap (kstB u (ps4i rl nl r ()))) (N : News h₀ L s₁.heap ((I, oI) :: led)) :
    wpAny (model PySem.Challenge.rw_vq0009_01.row.prog w) (callerA.deeper (envOf (PySem.Str.ofString "law") (by_elab lawScopeE) L fa cd)) (assign (by_elab lawTarget2E 7) (envOf (PySem.Str.ofString "law") (by_elab lawScopeE) L fa cd) q.ref)
      (fun _ s₃ => wpAny (model PySem.Challenge.rw_vq0009_01.row.prog w) (callerA.deeper (envOf (PySem.Str.ofString "law") (by_elab lawScopeE) L fa cd)) (execs (by_elab lawBody2E 7) (envOf (PySem.Str.ofString "law") (by_elab lawScopeE) L fa cd)) (TurnEnd h₀ L (I, oI) (fun _ : Unit => led) (ps4i rl nl r) (fun _ _ => True) (i + 1) s₁) E s₃) E s₁ := by
  have X0 := X
  revert X
  run_tac afresh
  k_fill
  intro X
  generalize hE : TurnEnd h₀ L (I, oI) (fun _ : Unit => led) (ps4i rl nl r) (fun _ _ => True) (i + 1) s₁ = R
  simp only [ps4i, kstB] at F
  refine wpAny_mono (rowA8 w h₀ L fa cd E X s₁ _ _ q (.tail _ hqm) F N) ?_ fun _ _ e => e
  clear F N
  rintro _ s' ⟨h', tk', rfl, F9, N9⟩
  k_steps
  refine Stop.off ?_
  rename Fr h₀ L _ _ => F9
  rename News h₀ L _ _ => N9
  refine' wpAny_mono (t4I1 w loose mean mg mb h₀ L fa cd E X0 T _ _ _ r.n q.n hr.lt hq.lt r.b1 q.b1 _ _ _ _ hr.one hq.one ?hm F9 N9) ?_ fun _ _ e => e
  (case hm => intro p hp; simp only [List.mem_cons, List.not_mem_nil, or_false] at hp; rcases hp with rfl | rfl | rfl | rfl <;> rfl)
  clear F9 N9
  rintro f s' ⟨rfl, h3, tk3, rfl, F9, N9⟩
  k_steps
  refine Stop.off ?_
  rename Fr h₀ L _ _ => F9
  rename News h₀ L _ _ => N9
  refine' wpAny_mono (t4I2 w loose mean mg mb h₀ L fa cd E X0 T _ _ _ r.n q.n r.b2 q.b2 _ _ _ _ hr.two hq.two ?hm F9 N9) ?_ fun _ _ e => e
  (case hm => intro p hp; simp only [List.mem_cons, List.not_mem_nil, or_false] at hp; rcases hp with rfl | rfl | rfl | rfl <;> rfl)
  clear F9 N9
  rintro f s' ⟨rfl, h3, tk3, rfl, F9, N9⟩
  k_steps
  refine Stop.off ?_
  rename Fr h₀ L _ _ => F9
  rename News h₀ L _ _ => N9
  refine' wpAny_mono (t4I3 w loose mean mg mb h₀ L fa cd E X0 T _ _ _ r.n q.n r.b1 q.b1 r.b2 q.b2 _ _ _ _ _ _ hr.one hq.one hr.two hq.two ?hm F9 N9) ?_ fun _ _ e => e
  (case hm => intro p hp; simp only [List.mem_cons, List.not_mem_nil, or_false] at hp; rcases hp with rfl | rfl | rfl | rfl | rfl | rfl <;> rfl)
  clear F9 N9
  rintro f s' ⟨rfl, h3, tk3, rfl, F9, N9⟩
  k_steps
  subst hE
  refine TurnEnd.intro () F9 N9 (fun p hp => .tail _ hp) (.head _) hoff ?_ trivial
  intro p hp
  simp only [ps4i, List.mem_cons, List.not_mem_nil, or_false] at hp
  rcases hp with rfl | rfl | rfl | rfl | rfl <;> rfl
theorem listOf_ne_row {rows : List Row} {v : Value} {i : Nat} (h : (rows.map Row.ref)[i]? = some v) : ∃ q, rows[i]? = some q ∧ v = q.ref := by
  rw [List.getElem?_map] at h
  cases hq : rows[i]? with
  | none => rw [hq] at h; cases h
  | some q => rw [hq] at h; exact ⟨q, rfl, (Option.some.inj h).symm⟩
local macro_rules | `(tactic| walk_at "exec For Tuple Name cons nil") => `(tactic| refine Stop.on ?_)
set_option maxRecDepth 100000 in
set_option maxHeartbeats 8000000 in
theorem turn4 (w : World) (loose : List Str) (mean : ExcName → Option Value) (mg mb : Str → Option Value) (h₀ : Heap) (L fa : Addr) (cd : Value) (E : Value → Shared → Prop) (hPE : PassesOwn (model PySem.Challenge.rw_vq0009_01.row.prog w) (callerA.deeper (envOf (PySem.Str.ofString "law") (by_elab lawScopeE) L fa cd)) (envOf (PySem.Str.ofString "law") (by_elab lawScopeE) L fa cd) E)
    (X : (hd.heap_39 w.params).In h₀) (T : Top topProg loose mean mg mb h₀) (rl nl : Addr) (rows : List Row) (rk : Nat) (led : List (Addr × Obj)) (hrl : (rl, W.listOf (rows.map Row.ref).toArray rk) ∈ led) (hrows : ∀ r ∈ rows, r.Ok) (hrm : ∀ r ∈ rows, r.tup ∈ led)
    (r : Row) (hr : r ∈ rows)
    (i : Nat) (u : Str → Option Value) (s₁ : Shared) (I : Addr) (oI : Obj) (hoff : ∀ p ∈ led, p.1 ≠ I) (F : Fr h₀ L s₁.heap (kstB u (ps4 rl nl ()))) (N : News h₀ L s₁.heap ((I, oI) :: led)) :
    wpAny (model PySem.Challenge.rw_vq0009_01.row.prog w) (callerA.deeper (envOf (PySem.Str.ofString "law") (by_elab lawScopeE) L fa cd)) (assign (by_elab lawTargetE 7) (envOf (PySem.Str.ofString "law") (by_elab lawScopeE) L fa cd) r.ref)
      (fun _ s₃ => wpAny (model PySem.Challenge.rw_vq0009_01.row.prog w) (callerA.deeper (envOf (PySem.Str.ofString "law") (by_elab lawScopeE) L fa cd)) (execs (by_elab lawBodyE 7) (envOf (PySem.Str.ofString "law") (by_elab lawScopeE) L fa cd)) (TurnEnd h₀ L (I, oI) (fun _ : Unit => led) (ps4 rl nl) (fun _ _ => True) (i + 1) s₁) E s₃) E s₁ := by
  have X0 := X
  revert X
  run_tac afresh
  k_fill
  intro X
  generalize hE : TurnEnd h₀ L (I, oI) (fun _ : Unit => led) (ps4 rl nl) (fun _ _ => True) (i + 1) s₁ = R
  simp only [ps4, kstB] at F
  refine wpAny_mono (rowA7 w h₀ L fa cd E X s₁ _ _ r (.tail _ (hrm r hr)) F N) ?_ fun _ _ e => e
  clear F N
  rintro _ s' ⟨h', tk', rfl, F9, N9⟩
  k_steps
  refine Stop.off ?_
  refine For_invT h₀ ?_ (by intro _; rfl) hPE
  k_steps
  refine listT (l := rl) (vs := rows.map Row.ref) (nn := rk) (fun _ : Unit => (I, oI) :: led) (ps4i rl nl r) (fun _ _ => True) () rfl (fun _ => .tail _ hrl) F9 N9 (fun p hp => hp) ?_ trivial ?_ ?_
  · intro p hp
    simp only [ps4i, List.mem_cons, List.not_mem_nil, or_false] at hp
    rcases hp with rfl | rfl | rfl | rfl | rfl <;> rfl
  · intro j v c u' s₂ I2 oI2 hv _ hoff2 F8 N8
    obtain ⟨q, hq, rfl⟩ := listOf_ne_row hv
    exact turn4i w loose mean mg mb h₀ L fa cd E X0 T rl nl _ r q (hrows r hr) (hrows q (List.mem_of_getElem? hq)) (.tail _ (hrm q (List.mem_of_getElem? hq))) j u' s₂ I2 oI2 hoff2 F8 N8
  · intro c u' h tk _ F8 N8
    k_steps
    subst hE
    refine TurnEnd.intro () F8 N8 (fun p hp => .tail _ hp) (.head _) hoff ?_ trivial
    intro p hp
    simp only [ps4, List.mem_cons, List.not_mem_nil, or_false] at hp
    rcases hp with rfl | rfl <;> rfl
end
section
local macro_rules | `(tactic| walk_at "call ref") => `(tactic| (k_here; (with_reducible show wpAny _ _ (call (Value.ref 124) [Value.bytes _ _, Value.int _ _]) _ _ _); (with_reducible rename TL _ _ => tl8); k_dflt (refine' dec_use (cl := []) ?B ?F ?X ?N ?T ?C1 ?C2 tl8 ?P ?S ?e ?hz ?hx ?h64 ?hk ?hd ?hu ?_; (case e => assumption); (case B => k_asm); (case F => k_asm); (case X => k_asm); (case N => k_asm); (case T => k_asm); (case C1 => assumption); (case C2 => assumption); (case P => walk_at "vq pre"); (case S => walk_at "vq sep"); (case hz => assumption); (case hx => first | assumption | (simp only [List.length_append, List.length_nil] <;> omega)); (case h64 => assumption); (case hk => rfl); (case hd => decide); (case hu => decide)); (clear tl8); intro D' t1' t2' h' tk' tl' TL' S' l1 F' N'; (try k_lt l1); (try simp only [List.cons_append, List.nil_append] at N'); (try dsimp only); (try k_sweep)))
local macro_rules | `(tactic| walk_at "compareOp NotEq ref ref") => `(tactic| (k_here; refine Stop.on ?_))
local macro_rules | `(tactic| walk_at "subscriptTail") => `(tactic| (k_here; (with_reducible rename TL _ _ => tlx); (with_reducible show wpAny _ _ (subscriptTail _ _ (Value.ref _) (Value.int 0 _)) _ _ _); refine Stop.on ?_))
theorem TL.has {rest tl : List (Addr × Obj)} (h : TL rest tl) {p : Addr × Obj} (hp : p ∈ rest) : p ∈ tl := by
  obtain ⟨ledV, ledD, _, _, _, _, rfl⟩ := h
  exact List.mem_append_right _ (List.mem_append_right _ hp)
theorem News.dup {h₀ h : Heap} {L : Addr} {news : List (Addr × Obj)} {p : Addr × Obj} (N : News h₀ L h news) (hp : p ∈ news) : News h₀ L h (p :: news) := by
  intro q hq
  rcases List.mem_cons.mp hq with rfl | hq
  · exact N _ hp
  · exact N q hq
theorem neT2e {A : Around} {s : Shared} {prog : Program} {w : World} {E : Value → Shared → Prop} {Q : Value → Shared → Prop} {h₀ : Heap} {L : Addr} {news : List (Addr × Obj)} {D D2 : Addr} {x y x' y' : Int} {t u t2 u2 : Tok} {k k2 : Nat} (N : News h₀ L s.heap news) (m1 : (D, ⟨.type "tuple", none, .seq #[.int x t, .int y t2] k, #[]⟩) ∈ news) (m2 : (D2, ⟨.type "tuple", none, .seq #[.int x' u, .int y' u2] k2, #[]⟩) ∈ news)
    (e1 : x = x') (e2 : y = y') (hu : A.units < cLine) (h : Q (.bool false) s) : wpAny (model prog w) A (compareOp .NotEq (.ref D) (.ref D2)) Q E s := by
  subst e1; subst e2
  exact neT2 N m1 m2 hu h
set_option maxRecDepth 100000 in
set_option maxHeartbeats 8000000 in
theorem st6 (w : World) (loose : List Str) (mean : ExcName → Option Value) (mg mb : Str → Option Value) (h₀ : Heap) (L fa : Addr) (cd : Value) (E : Value → Shared → Prop)
    (B : Below callerA h₀ [] h₀) (X : (hd.heap_39 w.params).In h₀) (T : Top topProg loose mean mg mb h₀) (C1 : CodeHd h₀ 116 112) (C2 : CodeHd h₀ 70 66)
    (rl nl : Addr) (nv : List Value) (nn rk : Nat) (r : Row) (rv : List Value) (rest tl : List (Addr × Obj)) (hrl : rl ≠ nl) (sb : Array UInt8) (ts tp : Tok) (hr : r.Ok) (pre : List Int) (hsb : KBw.bInts sb = pre ++ pv r.n) (hpl : pre.length ≤ 1000000)
    (hrm : r.tup ∈ rest) (htl : TL rest tl) (hS : Sep [rl, nl] tl) (s : Shared) (m : Str → Option Value) (F : Fr h₀ L s.heap m) (N : News h₀ L s.heap ((rl, W.listOf (Value.ref r.D :: rv).toArray rk) :: (nl, W.listOf nv.toArray nn) :: tl))
    (hm : ∀ p ∈ ([(Str.ofString "rows", .ref rl), (Str.ofString "stream", .bytes sb ts), (Str.ofString "place", .int (pre.length : Int) tp)] : List (Str × Value)), m p.1 = some p.2) :
    wpAny (model PySem.Challenge.rw_vq0009_01.row.prog w) (callerA.deeper (envOf (PySem.Str.ofString "law") (by_elab lawScopeE) L fa cd)) (exec (by_elab lawStmtE 6) (envOf (PySem.Str.ofString "law") (by_elab lawScopeE) L fa cd)) (fun f s' => f = .next ∧ ∃ h' tk tl', s' = { s with heap := h', toks := tk } ∧ TL rest tl' ∧ Sep [rl, nl] tl' ∧ Fr h₀ L h' m ∧ News h₀ L h' ((rl, W.listOf (Value.ref r.D :: rv).toArray rk) :: (nl, W.listOf nv.toArray nn) :: tl')) E s := by
  revert X
  run_tac afresh
  k_fill
  intro X
  have em : m = kstB m [(Str.ofString "rows", .ref rl), (Str.ofString "stream", .bytes sb ts), (Str.ofString "place", .int (pre.length : Int) tp)] := (kstB_self hm).symm
  have q4 : nl ≠ rl := hrl.symm
  have e1 : KBw.bInts sb = pre ++ pv r.n ++ [] := by rw [hsb]; simp
  have h64 := hr.lt
  have hv1 : (pv r.n).length ≤ 16 := by have := pv_len 9 r.n (Nat.lt_of_lt_of_le h64 (by decide)); omega
  have hsz : (KBw.bInts sb).length ≤ 16777216 := by rw [hsb, List.length_append]; omega
  generalize hR : (fun (f : Flow) (s' : Shared) => f = .next ∧ ∃ h' tk tl', s' = { s with heap := h', toks := tk } ∧ TL rest tl' ∧ Sep [rl, nl] tl' ∧ Fr h₀ L h' m ∧ News h₀ L h' ((rl, W.listOf (Value.ref r.D :: rv).toArray rk) :: (nl, W.listOf nv.toArray nn) :: tl')) = R
  have hF : Fr h₀ L s.heap (kstB m [(Str.ofString "rows", .ref rl), (Str.ofString "stream", .bytes sb ts), (Str.ofString "place", .int (pre.length : Int) tp)]) := em ▸ F
  simp only [kstB] at hF
  clear F hm
  k_steps
  refine Stop.off ?_
  rename Fr h₀ L _ _ => F9
  rename News h₀ L _ _ => N9
  rename TL _ _ => T9
  have N8 := News.dup N9 (List.mem_cons_of_mem _ (List.mem_cons_of_mem _ (List.mem_cons_of_mem _ (T9.has hrm))))
  simp only [Row.tup] at N8
  clear N9
  have T8 : id (TL rest _) := T9
  clear T9
  k_steps
  refine Stop.off ?_
  rename Fr h₀ L _ _ => F9
  rename News h₀ L _ _ => N9
  refine' neT2e N9 ?m1 ?m2 ?e1 ?e2 ?u ?_
  (case m1 => walk_at "vq mem")
  (case m2 => walk_at "vq mem")
  (case e1 => rfl)
  (case e2 => simp)
  (case u => exact Nat.le_of_ble_eq_true rfl)
  k_steps
  subst hR
  rename Sep _ _ => S9
  have T9 : TL rest _ := T8
  exact ⟨rfl, _, _, _, rfl, T9, S9, by rw [em]; exact F9, cb_drop N9 (by walk_at "vq tail")⟩
end
section
local macro_rules | `(tactic| walk_at "exec For Tuple Name cons nil") => `(tactic| refine Stop.on ?_)
set_option maxRecDepth 100000 in
set_option maxHeartbeats 8000000 in
theorem st7 (w : World) (loose : List Str) (mean : ExcName → Option Value) (mg mb : Str → Option Value) (h₀ : Heap) (L fa : Addr) (cd : Value) (E : Value → Shared → Prop) (hPE : PassesOwn (model PySem.Challenge.rw_vq0009_01.row.prog w) (callerA.deeper (envOf (PySem.Str.ofString "law") (by_elab lawScopeE) L fa cd)) (envOf (PySem.Str.ofString "law") (by_elab lawScopeE) L fa cd) E)
    (X : (hd.heap_39 w.params).In h₀) (T : Top topProg loose mean mg mb h₀) (rl nl : Addr) (rows : List Row) (rk : Nat) (nv : List Value) (nn : Nat) (rest tl : List (Addr × Obj)) (hrows : ∀ r ∈ rows, r.Ok) (htl : TL (rows.map Row.tup ++ rest) tl)
    (s : Shared) (m : Str → Option Value) (F : Fr h₀ L s.heap m) (N : News h₀ L s.heap ((rl, W.listOf (rows.map Row.ref).toArray rk) :: (nl, W.listOf nv.toArray nn) :: tl)) (hm : ∀ p ∈ ps4 rl nl (), m p.1 = some p.2) :
    wpAny (model PySem.Challenge.rw_vq0009_01.row.prog w) (callerA.deeper (envOf (PySem.Str.ofString "law") (by_elab lawScopeE) L fa cd)) (exec (by_elab lawStmtE 7) (envOf (PySem.Str.ofString "law") (by_elab lawScopeE) L fa cd)) (fun f s' => f = .next ∧ ∃ h' tk m', s' = { s with heap := h', toks := tk } ∧ m' (Str.ofString "numbers") = some (.ref nl) ∧ Fr h₀ L h' m' ∧ News h₀ L h' ((nl, W.listOf nv.toArray nn) :: tl)) E s := by
  have X0 := X
  revert X
  run_tac afresh
  k_fill
  intro X
  have em : m = kstB m (ps4 rl nl ()) := (kstB_self hm).symm
  generalize hR : (fun (f : Flow) (s' : Shared) => f = .next ∧ ∃ h' tk m', s' = { s with heap := h', toks := tk } ∧ m' (Str.ofString "numbers") = some (.ref nl) ∧ Fr h₀ L h' m' ∧ News h₀ L h' ((nl, W.listOf nv.toArray nn) :: tl)) = R
  have hF : Fr h₀ L s.heap (kstB m (ps4 rl nl ())) := em ▸ F
  simp only [kstB] at hF
  clear F hm
  have hrm : ∀ r ∈ rows, r.tup ∈ ((rl, W.listOf (rows.map Row.ref).toArray rk) :: (nl, W.listOf nv.toArray nn) :: tl) := fun r hr => .tail _ (.tail _ (htl.has (List.mem_append_left _ (List.mem_map.mpr ⟨r, hr, rfl⟩))))
  refine For_invT h₀ ?_ (by intro _; rfl) hPE
  k_steps
  refine listT (l := rl) (vs := rows.map Row.ref) (nn := rk) (Led4 rl nl (rows.map Row.ref) rk nv nn tl) (ps4 rl nl) (fun _ _ => True) () rfl (fun _ => .head _) hF N (fun p hp => hp) ?_ trivial ?_ ?_
  · intro p hp
    simp only [ps4, List.mem_cons, List.not_mem_nil, or_false] at hp
    rcases hp with rfl | rfl <;> rfl
  · intro j v c u' s₂ I2 oI2 hv _ hoff2 F8 N8
    obtain ⟨q, hq, rfl⟩ := listOf_ne_row hv
    exact turn4 w loose mean mg mb h₀ L fa cd E hPE X0 T rl nl rows rk _ (.head _) hrows hrm q (List.mem_of_getElem? hq) j u' s₂ I2 oI2 hoff2 F8 N8
  · intro c u' h tk _ F8 N8
    subst hR
    exact ⟨rfl, _, _, _, rfl, rfl, F8, cb_drop N8 (by walk_at "vq tail")⟩
end
section
abbrev M3 (rl nl : Addr) (sb : Array UInt8) (ts : Tok) (pl : Nat) (tp : Tok) : List (Str × Value) := [(Str.ofString "numbers", .ref nl), (Str.ofString "rows", .ref rl), (Str.ofString "stream", .bytes sb ts), (Str.ofString "place", .int (pl : Int) tp)]
set_option maxRecDepth 100000 in
set_option maxHeartbeats 8000000 in
theorem st5 (w : World) (loose : List Str) (mean : ExcName → Option Value) (mg mb : Str → Option Value) (h₀ : Heap) (L fa : Addr) (cd : Value) (E : Value → Shared → Prop) (hPE : PassesOwn (model PySem.Challenge.rw_vq0009_01.row.prog w) (callerA.deeper (envOf (PySem.Str.ofString "law") (by_elab lawScopeE) L fa cd)) (envOf (PySem.Str.ofString "law") (by_elab lawScopeE) L fa cd) E)
    (B : Below callerA h₀ [] h₀) (X : (hd.heap_39 w.params).In h₀) (T : Top topProg loose mean mg mb h₀) (C1 : CodeHd h₀ 116 112) (C2 : CodeHd h₀ 70 66) (rl nl : Addr) (hrl : rl ≠ nl) (rows : List Row) (rk : Nat) (nv : List Value) (nn : Nat) (rest tl : List (Addr × Obj)) (hrows : ∀ r ∈ rows, r.Ok) (htl : TL (rows.map Row.tup ++ rest) tl) (hS : Sep [rl, nl] tl)
    (sb : Array UInt8) (ts tp : Tok) (more : List Int) (hsb : KBw.bInts sb = (rows.map Row.octs).flatten ++ more) (hsz : (KBw.bInts sb).length ≤ 16777216)
    (s : Shared) (m : Str → Option Value) (F : Fr h₀ L s.heap m) (N : News h₀ L s.heap ((rl, W.listOf (rows.map Row.ref).toArray rk) :: (nl, W.listOf nv.toArray nn) :: tl)) (hm : ∀ p ∈ M3 rl nl sb ts 0 tp, m p.1 = some p.2) :
    wpAny (model PySem.Challenge.rw_vq0009_01.row.prog w) (callerA.deeper (envOf (PySem.Str.ofString "law") (by_elab lawScopeE) L fa cd)) (exec (by_elab lawStmtE 5) (envOf (PySem.Str.ofString "law") (by_elab lawScopeE) L fa cd)) (fun f s' => f = .next ∧ ∃ h' tk m' tl' tp', s' = { s with heap := h', toks := tk } ∧ TL (rows.map Row.tup ++ rest) tl' ∧ Sep [rl, nl] tl' ∧ (∀ p ∈ M3 rl nl sb ts ((rows.map Row.octs).flatten).length tp', m' p.1 = some p.2) ∧ Fr h₀ L h' m' ∧ News h₀ L h' ((rl, W.listOf (rows.map Row.ref).toArray rk) :: (nl, W.listOf nv.toArray nn) :: tl')) E s := by
  have X0 := X
  revert X
  run_tac afresh
  k_fill
  intro X
  have em : m = kstB m (M3 rl nl sb ts 0 tp) := (kstB_self hm).symm
  generalize hR : (fun (f : Flow) (s' : Shared) => f = .next ∧ ∃ h' tk m' tl' tp', s' = { s with heap := h', toks := tk } ∧ TL (rows.map Row.tup ++ rest) tl' ∧ Sep [rl, nl] tl' ∧ (∀ p ∈ M3 rl nl sb ts ((rows.map Row.octs).flatten).length tp', m' p.1 = some p.2) ∧ Fr h₀ L h' m' ∧ News h₀ L h' ((rl, W.listOf (rows.map Row.ref).toArray rk) :: (nl, W.listOf nv.toArray nn) :: tl')) = R
  have hF : Fr h₀ L s.heap (kstB m (M3 rl nl sb ts 0 tp)) := em ▸ F
  simp only [kstB] at hF
  clear F hm
  refine For_invT h₀ ?_ (by intro _; rfl) hPE
  k_steps
  refine listT (l := rl) (vs := rows.map Row.ref) (nn := rk) (Led3 rl nl (rows.map Row.ref) rk nv nn) (ps3 rl nl sb ts) (P3 rl nl rows rest) ⟨0, tp, tl⟩ rfl (fun _ => .head _) hF N (fun p hp => hp) ?_ ⟨htl, hS, rfl⟩ ?_ ?_
  · intro p hp
    simp only [ps3, List.mem_cons, List.not_mem_nil, or_false] at hp
    rcases hp with rfl | rfl | rfl | rfl <;> rfl
  · intro j v c u' s₂ I2 oI2 hv hP hoff2 F8 N8
    obtain ⟨q, hq, rfl⟩ := listOf_ne_row hv
    exact turn3 w loose mean mg mb h₀ L fa cd E B X0 T C1 C2 rl nl nv nn rk rows rest hrl sb ts hrows more hsb hsz j q hq c u' s₂ I2 oI2 hP hoff2 F8 N8
  · rintro ⟨pl, tp', tl'⟩ u' h tk ⟨h1, h2, h3⟩ F8 N8
    subst hR
    dsimp only at h1 h2 h3
    rw [List.length_map, List.take_of_length_le (Nat.le_refl _)] at h3
    refine ⟨rfl, _, _, _, tl', tp', rfl, h1, h2, ?_, F8, N8⟩
    rw [← h3]
    intro p hp
    simp only [M3, List.mem_cons, List.not_mem_nil, or_false] at hp
    rcases hp with rfl | rfl | rfl | rfl <;> rfl
abbrev M2 (rl nl : Addr) (b : Array UInt8) (tb : Tok) : List (Str × Value) := [(Str.ofString "numbers", .ref nl), (Str.ofString "rows", .ref rl), (Str.ofString "stream", .bytes b tb)]
local macro_rules | `(tactic| walk_at "call builtin:len") => `(tactic| (k_here; (with_reducible show wpAny _ _ (call (Value.builtin "len") [Value.ref _]) _ _ _); k_dflt (refine' KM.len_K ?N ?m ?s ?f ?_; (case N => k_asm); (case m => walk_at "vq mem"); (case s => assumption); (case f => omega))))
local macro_rules | `(tactic| walk_at "call type:range") => `(tactic| (k_here; k_dflt (refine' range1_rows ?F ?N ?_; (case F => k_asm); (case N => k_asm)); intro h' tk' t1' u1' v1' R' F' N' K'; (try k_sweep)))
set_option maxRecDepth 100000 in
set_option maxHeartbeats 8000000 in
theorem st3 (w : World) (loose : List Str) (mean : ExcName → Option Value) (mg mb : Str → Option Value) (h₀ : Heap) (L fa : Addr) (cd : Value) (E : Value → Shared → Prop) (hPE : PassesOwn (model PySem.Challenge.rw_vq0009_01.row.prog w) (callerA.deeper (envOf (PySem.Str.ofString "law") (by_elab lawScopeE) L fa cd)) (envOf (PySem.Str.ofString "law") (by_elab lawScopeE) L fa cd) E)
    (B : Below callerA h₀ [] h₀) (X : (hd.heap_39 w.params).In h₀) (T : Top topProg loose mean mg mb h₀) (C1 : CodeHd h₀ 116 112) (C2 : CodeHd h₀ 70 66) (rl nl : Addr) (hrl : rl ≠ nl) (nv : List Value) (nn : Nat) (ns : List Nat) (rest tl : List (Addr × Obj)) (htl : TL rest tl) (hS : Sep [rl, nl] tl)
    (hlen : nv.length = ns.length) (hI : ∀ (j m : Nat), ns[j]? = some m → ∃ t, nv[j]? = some (Value.int ((m : Nat) : Int) t)) (hns : ∀ n ∈ ns, n < 2 ^ 64) (h6 : ns.length ≤ 6) (ts : Tok)
    (s : Shared) (m : Str → Option Value) (F : Fr h₀ L s.heap m) (N : News h₀ L s.heap ((rl, W.listOf #[] 0) :: (nl, W.listOf nv.toArray nn) :: tl)) (hm : ∀ p ∈ M2 rl nl #[] ts, m p.1 = some p.2) :
    wpAny (model PySem.Challenge.rw_vq0009_01.row.prog w) (callerA.deeper (envOf (PySem.Str.ofString "law") (by_elab lawScopeE) L fa cd)) (exec (by_elab lawStmtE 3) (envOf (PySem.Str.ofString "law") (by_elab lawScopeE) L fa cd)) (fun f s' => f = .next ∧ ∃ h' tk m' tl', ∃ rows : List Row, ∃ rk b tb, s' = { s with heap := h', toks := tk } ∧ (rows.map Row.n) = ns ∧ (∀ r ∈ rows, r.Ok) ∧ TL (rows.map Row.tup ++ rest) tl' ∧ Sep [rl, nl] tl' ∧ KBw.bInts b = (rows.map Row.octs).flatten ∧ (∀ p ∈ M2 rl nl b tb, m' p.1 = some p.2) ∧ Fr h₀ L h' m' ∧ News h₀ L h' ((rl, W.listOf (rows.map Row.ref).toArray rk) :: (nl, W.listOf nv.toArray nn) :: tl')) E s := by
  have X0 := X
  revert X
  run_tac afresh
  k_fill
  intro X
  have em : m = kstB m (M2 rl nl #[] ts) := (kstB_self hm).symm
  generalize hR : (fun (f : Flow) (s' : Shared) => f = .next ∧ ∃ h' tk m' tl', ∃ rows : List Row, ∃ rk b tb, s' = { s with heap := h', toks := tk } ∧ (rows.map Row.n) = ns ∧ (∀ r ∈ rows, r.Ok) ∧ TL (rows.map Row.tup ++ rest) tl' ∧ Sep [rl, nl] tl' ∧ KBw.bInts b = (rows.map Row.octs).flatten ∧ (∀ p ∈ M2 rl nl b tb, m' p.1 = some p.2) ∧ Fr h₀ L h' m' ∧ News h₀ L h' ((rl, W.listOf (rows.map Row.ref).toArray rk) :: (nl, W.listOf nv.toArray nn) :: tl')) = R
  have hF : Fr h₀ L s.heap (kstB m (M2 rl nl #[] ts)) := em ▸ F
  simp only [kstB] at hF
  clear F hm
  have hsz : nv.toArray.size = ns.length := by rw [List.size_toArray, hlen]
  refine For_invT h₀ ?_ (by intro _; rfl) hPE
  k_steps
  rename Fr h₀ L _ _ => F9
  rename News h₀ L _ _ => N9
  rename IsRange _ _ _ _ _ _ _ _ => R9
  refine rangeT (n := ns.length) (Led2 rl nl nv nn rest) (ps2 rl nl) (P2 rl nl ns rest) ⟨[], 0, #[], ts, tl⟩ rfl R9 (small_one (by omega) (by omega) (by omega) (by omega)) (by rw [rangeSize_nat]; omega) F9 N9 (fun p hp => hp) ?_ ⟨rfl, rfl, (fun r hr => nomatch hr), htl, rfl, hS⟩ ?_ ?_
  · intro p hp
    simp only [ps2, List.mem_cons, List.not_mem_nil, or_false] at hp
    rcases hp with rfl | rfl | rfl <;> rfl
  · intro j t c u' s₂ I2 oI2 hj hP hoff2 F8 N8
    exact turn2 w loose mean mg mb h₀ L fa cd rl nl nv nn ns rest E B X0 T C1 C2 hrl hlen hI hns j t c u' s₂ I2 oI2 hj h6 hP hoff2 F8 N8
  · rintro ⟨rows, rk, b, tb, tl'⟩ u' h tk ⟨h1, h2, h3, h4, h5, h7⟩ F8 N8
    subst hR
    dsimp only at h1 h2 h3 h4 h5 h7
    rw [List.take_of_length_le (Nat.le_refl _)] at h2
    refine ⟨rfl, _, _, _, tl', rows, rk, b, tb, rfl, h2, h3, h4, h7, h5, ?_, F8, N8⟩
    intro p hp
    simp only [M2, List.mem_cons, List.not_mem_nil, or_false] at hp
    rcases hp with rfl | rfl | rfl <;> rfl
end
section
structure St1 where
  ns : List Nat
  nv : List Value
  k : Nat
abbrev Led1 (Dl : Addr) (lo : Obj) (nl : Addr) (tl : List (Addr × Obj)) (c : St1) : List (Addr × Obj) := (Dl, lo) :: (nl, W.listOf c.nv.toArray c.k) :: tl
abbrev ps1 (nl : Addr) (_ : St1) : List (Str × Value) := [(Str.ofString "numbers", .ref nl)]
def P1 (i : Nat) (c : St1) : Prop := c.ns.length = i ∧ c.nv.length = i ∧ (∀ (j m : Nat), c.ns[j]? = some m → ∃ t, c.nv[j]? = some (Value.int ((m : Nat) : Int) t)) ∧ ∀ n ∈ c.ns, n < 2 ^ 64
section
variable {prog : Program} {w : World} {A : Around} {E : Value → Shared → Prop} {h : Heap} {g : Array GenState} {d : Drawn} {tk : Nat} {os : OsState} {t u : Tok} {Q : Value → Shared → Prop} {s : Shared} {h₀ : Heap} {L : Addr} {news : List (Addr × Obj)}
theorem T1.fdiv {a b : Int} (hb : b ≠ 0) (hs : b.natAbs < 1073741824) (hq : ∀ y : Int, Q (.int y tk) ⟨h, g, d, tk + 1, os⟩) : wpAny (model prog w) A (binaryOp .FloorDiv (.int a t) (.int b u)) Q E ⟨h, g, d, tk, os⟩ :=
  floordiv_int hb (hq _) (.inl (PyProof.noPylong_small hs))
theorem T1.mod {a b : Int} {m : Nat} (hb : b = (m : Nat)) (hm : 0 < m) (hq : ∀ k : Nat, k < m → Q (.int (k : Int) tk) ⟨h, g, d, tk + 1, os⟩) : wpAny (model prog w) A (binaryOp .Mod (.int a t) (.int b u)) Q E ⟨h, g, d, tk, os⟩ := by
  subst hb
  refine AutoIntOps.mod_1 (by simp; omega) ?_
  have h1 : 0 ≤ a.fmod (m : Int) := Int.fmod_nonneg_of_pos a (by omega)
  have h2 : a.fmod (m : Int) < (m : Int) := Int.fmod_lt_of_pos a (by omega)
  obtain ⟨k, e⟩ := Int.eq_ofNat_of_zero_le h1
  rw [e]
  exact hq k (by omega)
theorem T1.mul {c : Int} {x n : Nat} (hc : c = (x : Nat)) (hx : x < 2 ^ 64) (hn : n < 2 ^ 64) (hq : Q (.int ((x * n : Nat) : Int) tk) ⟨h, g, d, tk + 1, os⟩) : wpAny (model prog w) A (binaryOp .Mult (.int c t) (.int (n : Int) u)) Q E ⟨h, g, d, tk, os⟩ := by
  subst hc
  refine mul_int (hm := by mul_fits) ?_
  rw [← Int.natCast_mul]; exact hq
theorem T1.pow {c e : Int} {n : Nat} (hc : c = 2) (he : e = (n : Nat)) (hn : n ≤ 1000) (hq : Q (.int ((2 ^ n : Nat) : Int) tk) ⟨h, g, d, tk + 1, os⟩) : wpAny (model prog w) A (binaryOp .Pow (.int c t) (.int e u)) Q E ⟨h, g, d, tk, os⟩ := by
  subst hc; subst he
  refine pow_int_small (by omega) (by omega) (by decide) ?_
  have e2 : ((2 : Int) ^ ((n : Int).toNat)) = ((2 ^ n : Nat) : Int) := by rw [Int.toNat_natCast]; simp
  rw [e2]; exact hq
theorem T1.sub1 {n : Nat} (hn : 1 ≤ n) (hq : Q (.int ((n - 1 : Nat) : Int) tk) ⟨h, g, d, tk + 1, os⟩) : wpAny (model prog w) A (binaryOp .Sub (.int (n : Int) t) (.int 1 u)) Q E ⟨h, g, d, tk, os⟩ := by
  refine sub_int ?_
  have e : (n : Int) - 1 = ((n - 1 : Nat) : Int) := by omega
  rw [e]; exact hq
theorem T1.add {x y : Nat} (hq : Q (.int ((x + y : Nat) : Int) tk) ⟨h, g, d, tk + 1, os⟩) : wpAny (model prog w) A (binaryOp .Add (.int (x : Int) t) (.int (y : Int) u)) Q E ⟨h, g, d, tk, os⟩ := by
  refine add_int ?_
  rw [← Int.natCast_add]; exact hq
end
theorem T1.small {n k : Nat} (hn : n < 10) (hk : k < 2) : 2 ^ (7 * n) - 1 + k < 2 ^ 64 := by
  have h : 2 ^ (7 * n) ≤ 2 ^ 63 := Nat.pow_le_pow_right (by decide) (by omega)
  omega
theorem T1.got {n0 n k1 n2 n3 n4 k : Nat} (hk : k < 5) (b0 : n0 < 300) (bn : n < 10) (bk : k1 < 2) (b2 : n2 < 2 ^ 64) (b3 : n3 < 2 ^ 64) (b4 : n4 < 2 ^ 32) :
    0 ≤ ([(n0 : Int), ((2 ^ (7 * n) - 1 + k1 : Nat) : Int), (n2 : Int), (n3 : Int), (n4 : Int)].getD ((k : Nat) : Int).toNat 0) ∧ Int.toNat ([(n0 : Int), ((2 ^ (7 * n) - 1 + k1 : Nat) : Int), (n2 : Int), (n3 : Int), (n4 : Int)].getD ((k : Nat) : Int).toNat 0) < 2 ^ 64 := by
  have b1 := T1.small bn bk
  generalize 2 ^ (7 * n) - 1 + k1 = n1 at b1
  have hc : k = 0 ∨ k = 1 ∨ k = 2 ∨ k = 3 ∨ k = 4 := by omega
  rcases hc with rfl | rfl | rfl | rfl | rfl
  · show 0 ≤ (n0 : Int) ∧ (n0 : Int).toNat < 2 ^ 64; omega
  · show 0 ≤ (n1 : Int) ∧ (n1 : Int).toNat < 2 ^ 64; omega
  · show 0 ≤ (n2 : Int) ∧ (n2 : Int).toNat < 2 ^ 64; omega
  · show 0 ≤ (n3 : Int) ∧ (n3 : Int).toNat < 2 ^ 64; omega
  · show 0 ≤ (n4 : Int) ∧ (n4 : Int).toNat < 2 ^ 64; omega
theorem turn1_end {Dl nl I : Addr} {lo oI : Obj} {tl big : List (Addr × Obj)} {c : St1} {h₀ h' : Heap} {L : Addr} {m' : Str → Option Value} {s : Shared} {tk k i : Nat} {x : Int} {t : Tok}
    (F : Fr h₀ L h' m') (N : News h₀ L h' big) (m1 : (I, oI) ∈ big) (m2 : (Dl, lo) ∈ big) (m3 : (nl, W.listOf (c.nv.toArray.push (.int x t)) k) ∈ big) (m4 : ∀ p ∈ tl, p ∈ big) (k1 : m' (Str.ofString "numbers") = some (.ref nl)) (q1 : Dl ≠ I) (q2 : nl ≠ I) (hp9 : ∀ q ∈ tl, q.1 ≠ I)
    (hp1 : c.ns.length = i) (hp2 : c.nv.length = i) (hp3 : ∀ (j m : Nat), c.ns[j]? = some m → ∃ t, c.nv[j]? = some (Value.int ((m : Nat) : Int) t)) (hp4 : ∀ n ∈ c.ns, n < 2 ^ 64) (hx : 0 ≤ x ∧ x.toNat < 2 ^ 64) :
    TurnEnd h₀ L (I, oI) (Led1 Dl lo nl tl) (ps1 nl) P1 (i + 1) s .next { s with heap := h', toks := tk } := by
  have e9 : (c.nv ++ [Value.int x t]).toArray = c.nv.toArray.push (.int x t) := by simp
  refine TurnEnd.intro ⟨c.ns ++ [x.toNat], c.nv ++ [Value.int x t], k⟩ F N ?_ m1 ?_ ?_ ⟨?_, ?_, ?_, ?_⟩
  · intro p hp
    simp only [Led1, List.mem_cons] at hp
    rcases hp with rfl | rfl | hp
    · exact m2
    · rw [e9]; exact m3
    · exact m4 p hp
  · intro p hp
    simp only [Led1, List.mem_cons] at hp
    rcases hp with rfl | rfl | hp
    · exact q1
    · exact q2
    · exact hp9 p hp
  · intro p hp
    simp only [ps1, List.mem_cons, List.not_mem_nil, or_false] at hp
    rcases hp with rfl
    exact k1
  · simp [hp1]
  · simp [hp2]
  · intro j n hj
    dsimp only at hj ⊢
    by_cases hji : j < i
    · rw [List.getElem?_append_left (by omega)] at hj
      rw [List.getElem?_append_left (by omega)]
      exact hp3 j n hj
    · rw [List.getElem?_append_right (by omega)] at hj
      rw [List.getElem?_append_right (by omega)]
      have e : j - c.ns.length = 0 := by
        cases hq : j - c.ns.length with
        | zero => rfl
        | succ q => rw [hq] at hj; simp at hj
      have e2 : j - c.nv.length = 0 := by omega
      rw [e] at hj
      rw [e2]
      simp only [List.getElem?_cons_zero, Option.some.injEq] at hj
      rw [← hj, Int.toNat_of_nonneg hx.1]
      exact ⟨_, rfl⟩
  · intro n hn
    rcases List.mem_append.mp hn with h | h
    · exact hp4 n h
    · rw [List.mem_singleton.mp h]; exact hx.2
local macro_rules | `(tactic| walk_at "binaryOp FloorDiv int int") => `(tactic| (k_here; (refine T1.fdiv (by decide) (by decide) ?_); intro y'))
local macro_rules | `(tactic| walk_at "binaryOp Mod int int") => `(tactic| (k_here; first | refine T1.mod (m := 300) rfl (by decide) ?_ | refine T1.mod (m := 10) rfl (by decide) ?_ | refine T1.mod (m := 5) rfl (by decide) ?_ | refine T1.mod (m := 2) rfl (by decide) ?_ | refine T1.mod rfl (Nat.pow_pos (by decide)) ?_; intro k' hk'))
local macro_rules | `(tactic| walk_at "binaryOp Mult int int") => `(tactic| (k_here; first | refine T1.mul (x := 7) rfl (by decide) (by omega) ?_ | refine T1.mul (x := 8) rfl (by decide) (by omega) ?_))
local macro_rules | `(tactic| walk_at "binaryOp Pow int int") => `(tactic| (k_here; first | (refine T1.pow rfl rfl ?_ ?_; omega) | refine T1.pow (n := 64) rfl rfl (by decide) ?_ | refine T1.pow (n := 32) rfl rfl (by decide) ?_))
local macro_rules | `(tactic| walk_at "binaryOp Sub int int") => `(tactic| (k_here; (refine T1.sub1 (Nat.pow_pos (by decide)) ?_)))
local macro_rules | `(tactic| walk_at "binaryOp Add int int") => `(tactic| (k_here; (refine T1.add ?_)))
set_option maxRecDepth 100000 in
set_option maxHeartbeats 8000000 in
theorem turn1 (w : World) (loose : List Str) (mean : ExcName → Option Value) (mg mb : Str → Option Value) (h₀ : Heap) (L fa : Addr) (cd : Value) (E : Value → Shared → Prop)
    (X : (hd.heap_39 w.params).In h₀) (T : Top topProg loose mean mg mb h₀) (Dl nl : Addr) (lo : Obj) (tl : List (Addr × Obj)) (hne : Dl ≠ nl) (hS : Sep [nl] tl)
    (i : Nat) (h6 : i < 6) (x : Int) (tx : Tok) (c : St1) (u : Str → Option Value) (s₁ : Shared) (I : Addr) (oI : Obj) (hP : P1 i c) (hoff : ∀ p ∈ Led1 Dl lo nl tl c, p.1 ≠ I) (F : Fr h₀ L s₁.heap (kstB u (ps1 nl c))) (N : News h₀ L s₁.heap ((I, oI) :: Led1 Dl lo nl tl c)) :
    wpAny (model PySem.Challenge.rw_vq0009_01.row.prog w) (callerA.deeper (envOf (PySem.Str.ofString "law") (by_elab lawScopeE) L fa cd)) (assign (by_elab lawTargetE 1) (envOf (PySem.Str.ofString "law") (by_elab lawScopeE) L fa cd) (.int x tx))
      (fun _ s₃ => wpAny (model PySem.Challenge.rw_vq0009_01.row.prog w) (callerA.deeper (envOf (PySem.Str.ofString "law") (by_elab lawScopeE) L fa cd)) (execs (by_elab lawBodyE 1) (envOf (PySem.Str.ofString "law") (by_elab lawScopeE) L fa cd)) (TurnEnd h₀ L (I, oI) (Led1 Dl lo nl tl) (ps1 nl) P1 (i + 1) s₁) E s₃) E s₁ := by
  have X0 := X
  revert X
  run_tac afresh
  k_fill
  intro X
  generalize hE : TurnEnd h₀ L (I, oI) (Led1 Dl lo nl tl) (ps1 nl) P1 (i + 1) s₁ = R
  have q1 : Dl ≠ I := hoff _ (.head _)
  have q2 : nl ≠ I := hoff _ (.tail _ (.head _))
  have q3 : I ≠ nl := q2.symm
  have q4 : nl ≠ Dl := hne.symm
  have hp9 : ∀ q ∈ tl, q.1 ≠ I := fun q hq => hoff q (.tail _ (.tail _ hq))
  have hp8 : ∀ q ∈ tl, q.1 ≠ nl := hS nl (.head _)
  obtain ⟨hp1, hp2, hp3, hp4⟩ := hP
  simp only [Led1] at N
  simp only [ps1, kstB] at F
  k_steps
  subst hE
  rename Fr h₀ L _ _ => F9
  rename News h₀ L _ _ => N9
  refine' turn1_end F9 N9 ?m1 ?m2 ?m3 ?m4 rfl q1 q2 hp9 hp1 hp2 hp3 hp4 ?hx
  (case m1 => walk_at "vq mem")
  (case m2 => walk_at "vq mem")
  (case m3 => walk_at "vq mem")
  (case m4 => walk_at "vq tail")
  (case hx => exact T1.got (by assumption) (by assumption) (by assumption) (by assumption) (by assumption) (by assumption) (by assumption))
end
section
local macro_rules | `(tactic| walk_at "pyIter ref") => `(tactic| refine Stop.on ?_)
theorem st1_len {xs : List Int} {n : Nat} (h : n = min (if ((List.take 6 xs).length : Int) > 2 then ((List.take 6 xs).length : Int) else 2).toNat (List.take 6 xs ++ [5, 300]).length) : 2 ≤ n ∧ n ≤ 6 := by
  have h1 : (List.take 6 xs).length ≤ 6 := by rw [List.length_take]; omega
  rw [List.length_append] at h
  generalize (List.take 6 xs).length = l at h h1
  simp only [List.length_cons, List.length_nil] at h
  split at h <;> omega
abbrev listIn {vs : List Value} {ns : List Int} (_ : IntsAre vs ns) : List Value := vs
theorem ints_at {vs : List Value} {xs : List Int} (h : IntsAre vs xs) {i : Nat} {v : Value} (hv : vs[i]? = some v) : ∃ x t, v = .int x t := by
  induction h generalizing i with
  | nil => simp at hv
  | cons a t _ ih =>
    cases i with
    | zero => exact ⟨_, _, (Option.some.inj (by simpa using hv)).symm⟩
    | succ i => exact ih (by simpa using hv)
set_option maxRecDepth 100000 in
set_option maxHeartbeats 8000000 in
theorem st1 (w : World) (loose : List Str) (mean : ExcName → Option Value) (mg mb : Str → Option Value) (h₀ : Heap) (L fa : Addr) (cd : Value) (E : Value → Shared → Prop) (hPE : PassesOwn (model PySem.Challenge.rw_vq0009_01.row.prog w) (callerA.deeper (envOf (PySem.Str.ofString "law") (by_elab lawScopeE) L fa cd)) (envOf (PySem.Str.ofString "law") (by_elab lawScopeE) L fa cd) E)
    (B : Below callerA h₀ [] h₀) (X : (hd.heap_39 w.params).In h₀) (T : Top topProg loose mean mg mb h₀) (nl a0 : Addr) (vs : List Value) (xs : List Int) (hl : h₀.IsList a0 vs.toArray) (hI : IntsAre vs xs) (h63 : ¬ ((63 : Nat) : Int) < ((xs.length : Nat) : Int)) (hlay : (PyData.list (xs.map PyData.int)).layable0 = true) (rest tl : List (Addr × Obj)) (htl : TL rest tl) (hS : Sep [nl] tl)
    (s : Shared) (m : Str → Option Value) (F : Fr h₀ L s.heap m) (N : News h₀ L s.heap ((nl, W.listOf #[] 0) :: tl)) (hm : ∀ p ∈ ([(Str.ofString "numbers", .ref nl), (Str.ofString "script", .ref a0)] : List (Str × Value)), m p.1 = some p.2) :
    wpAny (model PySem.Challenge.rw_vq0009_01.row.prog w) (callerA.deeper (envOf (PySem.Str.ofString "law") (by_elab lawScopeE) L fa cd)) (exec (by_elab lawStmtE 1) (envOf (PySem.Str.ofString "law") (by_elab lawScopeE) L fa cd)) (fun f s' => f = .next ∧ ∃ h' tk m', ∃ ns : List Nat, ∃ nv : List Value, ∃ k, s' = { s with heap := h', toks := tk } ∧ 2 ≤ ns.length ∧ ns.length ≤ 6 ∧ nv.length = ns.length ∧ (∀ (j m : Nat), ns[j]? = some m → ∃ t, nv[j]? = some (Value.int ((m : Nat) : Int) t)) ∧ (∀ n ∈ ns, n < 2 ^ 64) ∧ m' (Str.ofString "numbers") = some (.ref nl) ∧ Fr h₀ L h' m' ∧ News h₀ L h' ((nl, W.listOf nv.toArray k) :: tl)) E s := by
  have X0 := X
  revert X
  run_tac afresh
  k_fill
  intro X
  have em : m = kstB m [(Str.ofString "numbers", .ref nl), (Str.ofString "script", .ref a0)] := (kstB_self hm).symm
  generalize hR : (fun (f : Flow) (s' : Shared) => f = .next ∧ ∃ h' tk m', ∃ ns : List Nat, ∃ nv : List Value, ∃ k, s' = { s with heap := h', toks := tk } ∧ 2 ≤ ns.length ∧ ns.length ≤ 6 ∧ nv.length = ns.length ∧ (∀ (j m : Nat), ns[j]? = some m → ∃ t, nv[j]? = some (Value.int ((m : Nat) : Int) t)) ∧ (∀ n ∈ ns, n < 2 ^ 64) ∧ m' (Str.ofString "numbers") = some (.ref nl) ∧ Fr h₀ L h' m' ∧ News h₀ L h' ((nl, W.listOf nv.toArray k) :: tl)) = R
  have hF : Fr h₀ L s.heap (kstB m [(Str.ofString "numbers", .ref nl), (Str.ofString "script", .ref a0)]) := em ▸ F
  simp only [kstB] at hF
  clear F hm
  refine For_invT h₀ ?_ (by intro _; rfl) hPE
  k_steps
  refine Stop.off ?_
  rename Fr h₀ L _ _ => F9
  rename News h₀ L _ _ => N9
  rename IntsAre _ _ => hI9
  rename List.length _ = min _ _ => hC9
  have hlo := st1_len hC9
  have hlen : (listIn hI9).length = _ := hI9.length
  refine listT (vs := listIn hI9) (nn := 0) (Led1 _ (W.listOf (listIn hI9).toArray 0) nl tl) (ps1 nl) P1 ⟨[], [], 0⟩ rfl (fun _ => .head _) F9 N9 ?_ ?_ ⟨rfl, rfl, (fun j m h => by simp at h), (fun n hn => nomatch hn)⟩ ?_ ?_
  · intro p hp
    simp only [Led1, List.mem_cons] at hp
    rcases hp with rfl | rfl | hp
    · walk_at "vq mem"
    · walk_at "vq mem"
    · (repeat (first | exact hp | refine List.mem_cons_of_mem _ ?_))
  · intro p hp
    simp only [ps1, List.mem_cons, List.not_mem_nil, or_false] at hp
    rcases hp with rfl
    rfl
  · intro j v c u' s₂ I2 oI2 hv hP hoff2 F8 N8
    obtain ⟨x, t, rfl⟩ := ints_at hI9 hv
    have hj : j < 6 := by
      have := (List.getElem?_eq_some_iff.mp hv).1
      omega
    exact turn1 w loose mean mg mb h₀ L fa cd E X0 T _ nl _ tl (Nat.ne_of_gt (by omega)) hS j hj x t c u' s₂ I2 oI2 hP hoff2 F8 N8
  · rintro ⟨ns, nv, k⟩ u' h tk ⟨h1, h2, h3, h4⟩ F8 N8
    subst hR
    dsimp only at h1 h2 h3 h4
    exact ⟨rfl, _, _, _, ns, nv, k, rfl, by omega, by omega, by omega, h3, h4, rfl, F8, cb_drop N8 (by walk_at "vq tail")⟩
end
section
section
variable {prog : Program} {w : World} {A : Around} {E : Value → Shared → Prop} {s : Shared} {h₀ : Heap} {L l : Addr} {m : PySem.Str → Option Value} {env : Env} {news : List (Addr × Obj)} {vs : List Value} {as : List Int} {k : Nat}
theorem compK {elt iter : PySem.Expr} {x : PySem.Str} {px : Pos} {scope : Scope} {cl : List (PySem.Str × Addr)} {pos : Pos} {Q : Value → Shared → Prop} (f : Int → Int) (F : Fr h₀ L s.heap m) (N : News h₀ L s.heap news) (hm : (l, W.listOf vs.toArray k) ∈ news) (hI : IntsAre vs as) (hsz : as.length ≤ 16777216)
    (hh : A.handled = none) (hclos : closureFor scope env = pure cl) (hcell : ∀ y ∈ scope.names, y.2 ≠ .cell) (hkind : scope.kind = .function)
    (hnames : ∀ y ∈ scope.names, y.2 = .local → scope.names.lookup y.1 = some .local) (hx : scope.names.lookup x = some .local) (hs : ∀ x, foldedSetIterable iter env x = pure x)
    (hit : ∀ Q' : Value → Shared → Prop, Q' (.ref l) s → wpAny (model prog w) A (eval iter env) Q' E s)
    (helt : ∀ C a t s₂ m₂ E', s.heap.objs.size ≤ C → a ∈ as → s₂.heap.Ns (compEnvC scope cl C env).locals m₂ → m₂ x = some (.int a t) → (∀ b o, s.heap.get? b = some o → s₂.heap.get? b = some o) →
        wpAny (model prog w) A (eval elt (compEnvC scope cl C env)) (fun y s₃ => Carried y (.int (f a)) ∧ Keeps s₂ s₃) E' s₂)
    (h : ∀ D ys n h' tk, Fr h₀ L h' m → News h₀ L h' ((D, W.listOf (List.toArray ys) n) :: news) → IntsAre ys (as.map f) → Q (.ref D) { s with heap := h', toks := tk }) :
    wpAny (model prog w) A (eval (.ListComp elt [⟨.Name x px, iter, [], 0⟩] scope pos) env) Q E s := by
  refine ListComp_DCn (h₀ := h₀) (L := L) (m := m) (K := ItemKind.int) (pz := fun _ => true) (d := fun a => PyData.int (f a)) hh hclos hcell hkind hnames hx (hit _ ?_) hs
  refine ⟨news, l, vs, as, rfl, isListOf N hm, hI.areOf, by rw [sizeLine_eq]; exact hsz, F, N, ?_, ?_, ?_⟩
  · intro C a v s₂ m₂ E' hC ha hi hns hm hk
    exact wpAny_pure ⟨rfl, _, _, rfl, fun _ _ e => e⟩
  · intro C a v s₂ m₂ E' hC ha hi hpz hns hm hk
    obtain ⟨t, rfl⟩ := hi
    exact helt C a t s₂ m₂ E' hC ha hns hm hk
  · intro D ys h' tk F' N' hD hl hp hc
    obtain ⟨⟨n, e⟩, hne⟩ := id hp
    rw [List.filter_eq_self.mpr (fun _ _ => rfl)] at hc
    refine h D ys n h' tk F' ?_ (CarriedAll.intsOf hc)
    intro p hp'
    rcases List.mem_cons.mp hp' with rfl | hp'
    · exact ⟨e, hp.ne_locals F', hD⟩
    · exact N' p hp'
theorem assignK {elt iter : PySem.Expr} {x y : PySem.Str} {px py : Pos} {scope : Scope} {cl : List (PySem.Str × Addr)} {pos spos : Pos} {Q : Flow → Shared → Prop} (f : Int → Int) (F : Fr h₀ L s.heap m) (N : News h₀ L s.heap news) (hm : (l, W.listOf vs.toArray k) ∈ news) (hI : IntsAre vs as) (hsz : as.length ≤ 16777216)
    (hsw : swapsWith (.ListComp elt [⟨.Name x px, iter, [], 0⟩] scope pos) (some (.Name y py)) spos.line env = pure true) (hL : env.locals = L)
    (hh : A.handled = none) (hclos : closureFor scope env = pure cl) (hcell : ∀ y ∈ scope.names, y.2 ≠ .cell) (hkind : scope.kind = .function)
    (hnames : ∀ y ∈ scope.names, y.2 = .local → scope.names.lookup y.1 = some .local) (hx : scope.names.lookup x = some .local)
    (hy : env.kindOf y = some .local) (hp : (env.scope.kind == .class || (env.scope.kind == .module && env.locals != env.globals)) = false) (hs : ∀ x, foldedSetIterable iter env x = pure x)
    (hit : ∀ Q' : Value → Shared → Prop, Q' (.ref l) s → wpAny (model prog w) A (eval iter env) Q' E s)
    (helt : ∀ C a t s₂ m₂ E', s.heap.objs.size ≤ C → a ∈ as → s₂.heap.Ns (compEnvC scope cl C env).locals m₂ → m₂ x = some (.int a t) → (∀ b o, s.heap.get? b = some o → s₂.heap.get? b = some o) →
        wpAny (model prog w) A (eval elt (compEnvC scope cl C env)) (fun y s₃ => Carried y (.int (f a)) ∧ Keeps s₂ s₃) E' s₂)
    (h : ∀ D ys n h' tk, Fr h₀ L h' (fun z => if z = y then some (.ref D) else m z) → News h₀ L h' ((D, W.listOf (List.toArray ys) n) :: news) → IntsAre ys (as.map f) → Q .next { s with heap := h', toks := tk }) :
    wpAny (model prog w) A (exec (.Assign [.Name y py] (.ListComp elt [⟨.Name x px, iter, [], 0⟩] scope pos) spos) env) Q E s := by
  refine Assign_ListComp_DCn (h₀ := h₀) (L := L) (m := m) (K := ItemKind.int) (pz := fun _ => true) (d := fun a => PyData.int (f a)) hsw hL hh hclos hcell hkind hnames hx hy hp (hit _ ?_) hs
  refine ⟨news, l, vs, as, rfl, isListOf N hm, hI.areOf, by rw [sizeLine_eq]; exact hsz, F, N, ?_, ?_, ?_⟩
  · intro C a v s₂ m₂ E' hC ha hi hns hm hk
    exact wpAny_pure ⟨rfl, _, _, rfl, fun _ _ e => e⟩
  · intro C a v s₂ m₂ E' hC ha hi hpz hns hm hk
    obtain ⟨t, rfl⟩ := hi
    exact helt C a t s₂ m₂ E' hC ha hns hm hk
  · intro D ys h' tk F' N' hD hl hp hc
    obtain ⟨⟨n, e⟩, hne⟩ := id hp
    rw [List.filter_eq_self.mpr (fun _ _ => rfl)] at hc
    refine h D ys n h' tk F' ?_ (CarriedAll.intsOf hc)
    intro p hp'
    rcases List.mem_cons.mp hp' with rfl | hp'
    · exact ⟨e, hp.ne_locals F', hD⟩
    · exact N' p hp'
open PySem.SeqAt in
theorem ints_pt {vs ws : List Value} {as : List Int} (h1 : IntsAre vs as) (h2 : IntsAre ws as) : vs.length = ws.length ∧ ∀ j (p : j < vs.length) (q : j < ws.length), ∃ a t u, vs[j] = .int a t ∧ ws[j] = .int a u := by
  induction h1 generalizing ws with
  | nil => cases h2; exact ⟨rfl, fun j p => by simp at p⟩
  | cons a t _ ih =>
    cases h2 with
    | cons _ u r2 =>
      obtain ⟨e1, e2⟩ := ih r2
      refine ⟨by simp [e1], fun j p q => ?_⟩
      cases j with
      | zero => exact ⟨a, t, u, rfl, rfl⟩
      | succ j => exact e2 j (by simpa using p) (by simpa using q)
open PySem.SeqAt in
theorem eqL {Q : Value → Shared → Prop} {l2 : Addr} {ws : List Value} {bs : List Int} {k2 : Nat} (N : News h₀ L s.heap news) (m1 : (l, W.listOf vs.toArray k) ∈ news) (m2 : (l2, W.listOf ws.toArray k2) ∈ news) (h1 : IntsAre vs as) (h2 : IntsAre ws bs) (e : as = bs) (hu : A.units < cLine) (h : Q (.bool true) s) : wpAny (model prog w) A (compareOp .Eq (.ref l) (.ref l2)) Q E s := by
  subst e
  obtain ⟨e1, e2⟩ := ints_pt h1 h2
  have g := RcAt.lists (A := A) (s := s) (e := fun _ => true) (isListOf N m1) (isListOf N m2) (by simpa using e1) hu (fun j p q => by
    obtain ⟨a, t, u, ea, eb⟩ := e2 j (by simpa using p) (by simpa using q)
    have ea' : vs.toArray[j] = .int a t := by simpa using ea
    have eb' : ws.toArray[j] = .int a u := by simpa using eb
    rw [ea', eb']
    exact eqAt_int)
  have hall : ((List.range vs.toArray.size).all fun _ => true) = true := by simp
  rw [hall] at g
  exact g prog w E Q h
end
def zz (a : Int) : Int := if 0 ≤ a then 2 * a else -(2 * a) - 1
def tn (a : Int) : Int := if (a.fmod 2 == 0) = true then a.fdiv 2 else -a.fdiv 2 - 1
theorem tn_nat {a : Int} (h : 0 ≤ a) : (tn a = a / 2 ∧ a % 2 = 0) ∨ (tn a = -(a / 2) - 1 ∧ a % 2 = 1) := by
  have e1 : a.fmod 2 = a % 2 := Int.fmod_eq_emod_of_nonneg a (by decide)
  have e2 : a.fdiv 2 = a / 2 := Int.fdiv_eq_ediv_of_nonneg a (by decide)
  have h2 : a % 2 = 0 ∨ a % 2 = 1 := by omega
  unfold tn
  rw [e1, e2]
  rcases h2 with h2 | h2
  · left; simp [h2]
  · right; simp [h2]
theorem zz_tn {a : Int} (h : 0 ≤ a) : zz (tn a) = a := by
  rcases tn_nat h with ⟨e, h2⟩ | ⟨e, h2⟩
  · rw [e]; unfold zz; rw [if_pos (by omega)]; omega
  · rw [e]; unfold zz; rw [if_neg (by omega)]; omega
theorem xorNot (x : Int) : Builtin.bitXor x (Builtin.bitNot 0) = -x - 1 := by
  have e1 : Builtin.bitNot 0 = -1 := rfl
  rw [e1]
  have h1 : Builtin.bitAnd x (-1) = x := by
    unfold Builtin.bitAnd
    have d1 : decide ((0 : Int) ≤ -1) = false := rfl
    rw [d1]
    by_cases h : 0 ≤ x
    · rw [decide_eq_true h]
      dsimp only
      have e2 : (Builtin.bitNot (-1)).toNat = 0 := rfl
      rw [e2, Nat.and_zero]; simp
    · rw [decide_eq_false h]
      dsimp only
      have e2 : (Builtin.bitNot (-1)).toNat = 0 := rfl
      rw [e2, Nat.or_zero]
      unfold Builtin.bitNot
      omega
  have h2 : Builtin.bitOr x (-1) = -1 := by
    unfold Builtin.bitOr
    have e3 : Builtin.bitNot (-1) = 0 := rfl
    rw [e3]
    have h3 : Builtin.bitAnd (Builtin.bitNot x) 0 = 0 := by
      unfold Builtin.bitAnd
      have d1 : decide ((0 : Int) ≤ 0) = true := rfl
      rw [d1]
      by_cases h : 0 ≤ Builtin.bitNot x
      · rw [decide_eq_true h]
        dsimp only
        have e2 : (0 : Int).toNat = 0 := rfl
        rw [e2, Nat.and_zero]; rfl
      · rw [decide_eq_false h]
        dsimp only
        have e2 : (0 : Int).toNat = 0 := rfl
        rw [e2, Nat.zero_and]; rfl
    rw [h3]; rfl
  unfold Builtin.bitXor
  rw [h1, h2]; omega
theorem zz_all {xs : List Int} (h : ∀ n ∈ xs, 0 ≤ n ∧ n < 18446744073709551616) : (xs.map tn).map zz = xs := by
  rw [List.map_map]
  conv => rhs; rw [← List.map_id xs]
  exact List.map_congr_left fun a ha => zz_tn (h a ha).1
end
section
theorem carI {x y : Int} {t : Tok} (e : x = y) : Carried (.int x t) (.int y) := e ▸ .int x t
theorem tn_c1 {a : Int} {t : Tok} (h : a.fmod 2 = 0) : Carried (.int (a.fdiv 2) t) (.int (tn a)) := carI (by unfold tn; rw [if_pos (by rw [h]; rfl)])
theorem tn_c2 {a : Int} {t : Tok} (h : ¬ a.fmod 2 = 0) : Carried (.int (-a.fdiv 2 - 1) t) (.int (tn a)) := carI (by unfold tn; rw [if_neg (by simpa using h)])
theorem zz_c1 {a : Int} {t : Tok} (h : 0 ≤ a) : Carried (.int (a * 2 ^ Int.toNat 1) t) (.int (zz a)) := carI (by
  unfold zz; rw [if_pos h]; show a * 2 = 2 * a; omega)
theorem zz_c2 {a : Int} {t : Tok} (h : ¬ 0 ≤ a) : Carried (.int (Builtin.bitXor (a * 2 ^ Int.toNat 1) (Builtin.bitNot 0)) t) (.int (zz a)) := carI (by
  rw [xorNot]; unfold zz; rw [if_neg h]; show -(a * 2) - 1 = -(2 * a) - 1; omega)
set_option maxRecDepth 100000 in
set_option maxHeartbeats 8000000 in
theorem st9 (w : World) (loose : List Str) (mean : ExcName → Option Value) (mg mb : Str → Option Value) (h₀ : Heap) (L fa : Addr) (cd : Value) (E : Value → Shared → Prop)
    (X : (hd.heap_39 w.params).In h₀) (T : Top topProg loose mean mg mb h₀) (nl : Addr) (nv : List Value) (k : Nat) (xs : List Int) (hI : IntsAre nv xs) (h6 : xs.length ≤ 6) (tl : List (Addr × Obj))
    (s : Shared) (m : Str → Option Value) (F : Fr h₀ L s.heap m) (N : News h₀ L s.heap ((nl, W.listOf nv.toArray k) :: tl)) (hm : ∀ p ∈ ([(Str.ofString "numbers", .ref nl)] : List (Str × Value)), m p.1 = some p.2) :
    wpAny (model PySem.Challenge.rw_vq0009_01.row.prog w) (callerA.deeper (envOf (PySem.Str.ofString "law") (by_elab lawScopeE) L fa cd)) (exec (by_elab lawStmtE 9) (envOf (PySem.Str.ofString "law") (by_elab lawScopeE) L fa cd)) (fun f s' => f = .next ∧ ∃ D ys n h' tk m', s' = { s with heap := h', toks := tk } ∧ IntsAre ys (xs.map tn) ∧ m' (Str.ofString "numbers") = some (.ref nl) ∧ m' (Str.ofString "turned") = some (.ref D) ∧ Fr h₀ L h' m' ∧ News h₀ L h' ((D, W.listOf ys.toArray n) :: (nl, W.listOf nv.toArray k) :: tl)) E s := by
  have X0 := X
  revert X
  run_tac afresh
  k_fill
  intro X
  have em : m = kstB m [(Str.ofString "numbers", .ref nl)] := (kstB_self hm).symm
  generalize hR : (fun (f : Flow) (s' : Shared) => f = .next ∧ ∃ D ys n h' tk m', s' = { s with heap := h', toks := tk } ∧ IntsAre ys (xs.map tn) ∧ m' (Str.ofString "numbers") = some (.ref nl) ∧ m' (Str.ofString "turned") = some (.ref D) ∧ Fr h₀ L h' m' ∧ News h₀ L h' ((D, W.listOf (List.toArray ys) n) :: (nl, W.listOf nv.toArray k) :: tl)) = R
  have hF : Fr h₀ L s.heap (kstB m [(Str.ofString "numbers", .ref nl)]) := em ▸ F
  clear F hm
  refine assignK (m := kstB m [(Str.ofString "numbers", .ref nl)]) tn hF N (.head _) hI (by omega) (by with_unfolding_all rfl) rfl rfl (by with_unfolding_all rfl) (by decide) (by with_unfolding_all rfl) (by decide) (by with_unfolding_all rfl) (by with_unfolding_all rfl) (by with_unfolding_all rfl) (by intro _; rfl) ?_ ?_ ?_
  · intro Q' hQ
    simp only [kstB] at hF
    k_steps
    exact hQ
  · intro C a t s₂ m₂ E' hC ha hns hm hk
    simp only [kstB] at hF
    k_steps
    all_goals first
      | exact ⟨_, _, rfl, fun _ _ e => e⟩
      | exact tn_c1 (by assumption)
      | exact tn_c2 (by assumption)
  · intro D ys n h' tk F9 N9 hI9
    simp only [kstB] at F9
    subst hR
    exact ⟨rfl, D, ys, n, _, _, _, rfl, hI9, rfl, rfl, F9, N9⟩
end
section
theorem and1 {a : Int} (h : 0 ≤ a) : Builtin.bitAnd a 1 = a % 2 := by
  unfold Builtin.bitAnd
  rw [decide_eq_true h]
  have d1 : decide ((0 : Int) ≤ 1) = true := rfl
  rw [d1]
  dsimp only
  have e : (1 : Int).toNat = 1 := rfl
  rw [e, Nat.and_one_is_mod]
  omega
theorem zd_c1 {a : Int} {t : Tok} (h0 : 0 ≤ a) (h : Builtin.bitAnd a 1 = 0) : Carried (.int (a.fdiv (2 ^ Int.toNat 1)) t) (.int (tn a)) := carI (by
  rw [and1 h0] at h
  rcases tn_nat h0 with ⟨e, h2⟩ | ⟨e, h2⟩
  · rw [e]; show a.fdiv 2 = a / 2; exact Int.fdiv_eq_ediv_of_nonneg a (by decide)
  · omega)
theorem zd_c2 {a : Int} {t : Tok} (h0 : 0 ≤ a) (h : ¬ Builtin.bitAnd a 1 = 0) : Carried (.int (Builtin.bitXor (a.fdiv (2 ^ Int.toNat 1)) (Builtin.bitNot 0)) t) (.int (tn a)) := carI (by
  rw [and1 h0] at h
  rw [xorNot]
  rcases tn_nat h0 with ⟨e, h2⟩ | ⟨e, h2⟩
  · omega
  · rw [e]; show -(a.fdiv 2) - 1 = -(a / 2) - 1; rw [Int.fdiv_eq_ediv_of_nonneg a (by decide)])
local macro_rules | `(tactic| walk_at "eval ListComp") => `(tactic| refine Stop.on ?_)
local macro_rules | `(tactic| walk_at "compareOp Eq ref ref") => `(tactic| refine Stop.on ?_)
set_option maxRecDepth 100000 in
set_option maxHeartbeats 8000000 in
theorem st10 (w : World) (loose : List Str) (mean : ExcName → Option Value) (mg mb : Str → Option Value) (h₀ : Heap) (L fa : Addr) (cd : Value) (E : Value → Shared → Prop)
    (B : Below callerA h₀ [] h₀) (X : (hd.heap_39 w.params).In h₀) (T : Top topProg loose mean mg mb h₀) (nl D : Addr) (nv ys : List Value) (k n : Nat) (xs : List Int) (hI : IntsAre nv xs) (hI2 : IntsAre ys (xs.map tn)) (hns : ∀ n ∈ xs, 0 ≤ n ∧ n < 18446744073709551616) (h6 : xs.length ≤ 6) (tl : List (Addr × Obj))
    (s : Shared) (m : Str → Option Value) (F : Fr h₀ L s.heap m) (N : News h₀ L s.heap ((D, W.listOf ys.toArray n) :: (nl, W.listOf nv.toArray k) :: tl)) (hm : ∀ p ∈ ([(Str.ofString "numbers", .ref nl), (Str.ofString "turned", .ref D)] : List (Str × Value)), m p.1 = some p.2) :
    wpAny (model PySem.Challenge.rw_vq0009_01.row.prog w) (callerA.deeper (envOf (PySem.Str.ofString "law") (by_elab lawScopeE) L fa cd)) (exec (by_elab lawStmtE 10) (envOf (PySem.Str.ofString "law") (by_elab lawScopeE) L fa cd)) (fun f s' => f = .ret (.bool true) ∧ ∃ h' tk m', s' = { s with heap := h', toks := tk } ∧ Fr h₀ L h' m' ∧ News h₀ L h' tl) E s := by
  have X0 := X
  revert X
  run_tac afresh
  k_fill
  intro X
  have em : m = kstB m [(Str.ofString "numbers", .ref nl), (Str.ofString "turned", .ref D)] := (kstB_self hm).symm
  generalize hR : (fun (f : Flow) (s' : Shared) => f = .ret (.bool true) ∧ ∃ h' tk m', s' = { s with heap := h', toks := tk } ∧ Fr h₀ L h' m' ∧ News h₀ L h' tl) = R
  have hF : Fr h₀ L s.heap (kstB m [(Str.ofString "numbers", .ref nl), (Str.ofString "turned", .ref D)]) := em ▸ F
  clear F hm
  have hF0 := hF
  simp only [kstB] at hF
  clear hF0
  have hzs : ∀ a ∈ xs.map tn, -9223372036854775808 ≤ a ∧ a < 9223372036854775808 := by
    intro a ha
    obtain ⟨b, hb, rfl⟩ := List.mem_map.mp ha
    have := hns b hb
    rcases tn_nat this.1 with ⟨e, _⟩ | ⟨e, _⟩ <;> omega
  k_steps
  refine Stop.off ?_
  refine compK (m := kstB m [(Str.ofString "numbers", .ref nl), (Str.ofString "turned", .ref D)]) zz hF N (.head _) hI2 (by simp; omega) rfl (by with_unfolding_all rfl) (by decide) (by with_unfolding_all rfl) (by decide) (by with_unfolding_all rfl) (by intro _; rfl) ?_ ?_ ?_
  · intro Q' hQ
    k_steps
    exact hQ
  · intro C a t s₂ m₂ E' hC ha hns2 hm hk
    have hb := hzs a ha
    k_steps
    all_goals first
      | exact ⟨_, _, rfl, by assumption⟩
      | exact zz_c1 (by assumption)
      | exact zz_c2 (by assumption)
  · intro D2 ys2 n2 h' tk F9 N9 hI9
    simp only [kstB] at F9
    clear hF N
    k_steps
    refine Stop.off ?_
    refine eqL N9 (.head _) (.tail _ (.tail _ (.head _))) hI9 hI (zz_all hns) (Nat.le_of_ble_eq_true rfl) ?_
    k_steps
    refine Stop.off ?_
    refine compK tn F9 N9 (.tail _ (.tail _ (.head _))) hI (by omega) rfl (by with_unfolding_all rfl) (by decide) (by with_unfolding_all rfl) (by decide) (by with_unfolding_all rfl) (by intro _; rfl) ?_ ?_ ?_
    · intro Q' hQ
      k_steps
      exact hQ
    · intro C a t s₂ m₂ E' hC ha hns2 hm hk
      have hb := hns a ha
      k_steps
      all_goals first
        | exact ⟨_, _, rfl, by assumption⟩
        | exact zd_c1 hb.1 (by assumption)
        | exact zd_c2 hb.1 (by assumption)
    · intro D3 ys3 n3 h3 tk3 F8 N8 hI8
      clear F9 N9
      k_steps
      refine Stop.off ?_
      refine eqL N8 (.head _) (.tail _ (.tail _ (.head _))) hI8 hI2 rfl (Nat.le_of_ble_eq_true rfl) ?_
      subst hR
      exact ⟨rfl, _, _, _, rfl, F8, cb_drop N8 (by walk_at "vq tail")⟩
end
section
theorem ltBe {prog : Program} {w : World} {A : Around} {E : Value → Shared → Prop} {s : Shared} {Q : Value → Shared → Prop} {b c : Array UInt8} {t u : Tok} {ks ks' : List Int} {x : Bool} (hb : KBw.bInts b = ks) (hc : KBw.bInts c = ks') (e : ltI ks ks' = x) (h : Q (.bool x) s) : wpAny (model prog w) A (compareOp .Lt (.bytes b t) (.bytes c u)) Q E s := by
  refine ltB hb hc ?_
  rw [e]; exact h
local macro_rules | `(tactic| walk_at "compareOp Lt bytes bytes") => `(tactic| (k_here; k_dflt (refine' ltBe ?hb ?hc ?e ?_; (case hb => assumption); (case hc => assumption); (case e => assumption))))
local macro_rules | `(tactic| walk_at "call ref") => `(tactic| (k_here; (with_reducible show wpAny _ _ (call (Value.ref 497) [Value.int _ _]) _ _ _); k_dflt ((first | (refine' enc_use (cl := []) (x := 127) (n := 127) ?B ?F ?X ?N ?T ?C1 ?C2 rfl ?h64 ?hk ?hd ?hu ?_) | (refine' enc_use (cl := []) (x := 0) (n := 0) ?B ?F ?X ?N ?T ?C1 ?C2 rfl ?h64 ?hk ?hd ?hu ?_) | (refine' enc_use (cl := []) (x := 128) (n := 128) ?B ?F ?X ?N ?T ?C1 ?C2 rfl ?h64 ?hk ?hd ?hu ?_)); (case B => k_asm); (case F => k_asm); (case X => k_asm); (case N => k_asm); (case T => k_asm); (case C1 => assumption); (case C2 => assumption); (case h64 => decide); (case hk => rfl); (case hd => decide); (case hu => decide)); intro b' t' h' tk' hb' F' N'; (try dsimp only); (try k_sweep)))
set_option maxRecDepth 100000 in
set_option maxHeartbeats 8000000 in
theorem st8 (w : World) (loose : List Str) (mean : ExcName → Option Value) (mg mb : Str → Option Value) (h₀ : Heap) (L fa : Addr) (cd : Value) (E : Value → Shared → Prop)
    (B : Below callerA h₀ [] h₀) (X : (hd.heap_39 w.params).In h₀) (T : Top topProg loose mean mg mb h₀) (C1 : CodeHd h₀ 116 112) (C2 : CodeHd h₀ 70 66)
    (s : Shared) (m : Str → Option Value) (big : List (Addr × Obj)) (F : Fr h₀ L s.heap m) (N : News h₀ L s.heap big) :
    wpAny (model PySem.Challenge.rw_vq0009_01.row.prog w) (callerA.deeper (envOf (PySem.Str.ofString "law") (by_elab lawScopeE) L fa cd)) (exec (by_elab lawStmtE 8) (envOf (PySem.Str.ofString "law") (by_elab lawScopeE) L fa cd)) (fun f s' => f = .next ∧ ∃ h' tk, s' = { s with heap := h', toks := tk } ∧ Fr h₀ L h' m ∧ News h₀ L h' big) E s := by
  revert X
  run_tac afresh
  k_fill
  intro X
  generalize hR : (fun (f : Flow) (s' : Shared) => f = .next ∧ ∃ h' tk, s' = { s with heap := h', toks := tk } ∧ Fr h₀ L h' m ∧ News h₀ L h' big) = R
  have r127 : rlp 127 = [127] := by rw [rlp, if_neg (by decide), if_pos (by decide)]; rfl
  have r0 : rlp 0 = [128] := rfl
  have r128 : rlp 128 = [129, 128] := by rw [rlp, if_neg (by decide), if_neg (by decide), be_small (by decide) (by decide)]; rfl
  have e1 : ltI (rlp 127) (rlp 0) = true := by rw [r127, r0]; rfl
  have e2 : ltI (rlp 0) (rlp 128) = true := by rw [r128, r0]; rfl
  k_steps
  subst hR
  rename Fr h₀ L _ _ => F9
  rename News h₀ L _ _ => N9
  exact ⟨rfl, _, _, rfl, F9, N9⟩
end
section
set_option maxRecDepth 100000 in
set_option maxHeartbeats 8000000 in
theorem st2 (w : World) (h₀ : Heap) (L fa : Addr) (cd : Value) (E : Value → Shared → Prop) (X : (hd.heap_39 w.params).In h₀)
    (s : Shared) (m : Str → Option Value) (nl : Addr) (oN : Obj) (tl : List (Addr × Obj)) (hm : ∀ p ∈ ([(Str.ofString "numbers", .ref nl)] : List (Str × Value)), m p.1 = some p.2) (F : Fr h₀ L s.heap m) (N : News h₀ L s.heap ((nl, oN) :: tl)) :
    wpAny (model PySem.Challenge.rw_vq0009_01.row.prog w) (callerA.deeper (envOf (PySem.Str.ofString "law") (by_elab lawScopeE) L fa cd)) (exec (by_elab lawStmtE 2) (envOf (PySem.Str.ofString "law") (by_elab lawScopeE) L fa cd)) (fun f s' => f = .next ∧ ∃ h' tk m' rl ts, s' = { s with heap := h', toks := tk } ∧ rl ≠ nl ∧ (∀ q ∈ tl, q.1 ≠ rl) ∧ (∀ p ∈ M2 rl nl #[] ts, m' p.1 = some p.2) ∧ Fr h₀ L h' m' ∧ News h₀ L h' ((rl, W.listOf #[] 0) :: (nl, oN) :: tl)) E s := by
  revert X
  run_tac afresh
  k_fill
  intro X
  have em : m = kstB m [(Str.ofString "numbers", .ref nl)] := (kstB_self hm).symm
  generalize hR : (fun (f : Flow) (s' : Shared) => f = .next ∧ ∃ h' tk m' rl ts, s' = { s with heap := h', toks := tk } ∧ rl ≠ nl ∧ (∀ q ∈ tl, q.1 ≠ rl) ∧ (∀ p ∈ M2 rl nl #[] ts, m' p.1 = some p.2) ∧ Fr h₀ L h' m' ∧ News h₀ L h' ((rl, W.listOf #[] 0) :: (nl, oN) :: tl)) = R
  have hF : Fr h₀ L s.heap (kstB m [(Str.ofString "numbers", .ref nl)]) := em ▸ F
  simp only [kstB] at hF
  clear F hm
  k_steps
  subst hR
  rename Fr h₀ L _ _ => F9
  rename News h₀ L _ _ => N9
  refine' ⟨rfl, _, _, _, _, _, rfl, ?a, ?b, ?c, F9, cb_drop N9 ?d⟩
  (case c => intro p hp; simp only [M2, List.mem_cons, List.not_mem_nil, or_false] at hp; rcases hp with rfl | rfl | rfl <;> rfl)
  (case a => exact Nat.ne_of_gt (by omega))
  (case b => exact bnd_ne (by omega))
  (case d => walk_at "vq tail")
local macro_rules | `(tactic| walk_at "subscriptTail") => `(tactic| (k_here; (with_reducible rename TL _ _ => tlx); (with_reducible show wpAny _ _ (subscriptTail _ _ (Value.ref _) (Value.int 0 _)) _ _ _); refine Stop.on ?_))
set_option maxRecDepth 100000 in
set_option maxHeartbeats 8000000 in
theorem st4 (w : World) (h₀ : Heap) (L fa : Addr) (cd : Value) (E : Value → Shared → Prop) (X : (hd.heap_39 w.params).In h₀)
    (s : Shared) (m : Str → Option Value) (rl nl : Addr) (r : Row) (rv : List Value) (rk : Nat) (tl : List (Addr × Obj)) (oN : Obj) (hr : r.Ok) (sb : Array UInt8) (ts : Tok) (pre : List Int) (hsb : KBw.bInts sb = pre) (hpl : pre.length ≤ 1000000) (hrm : r.tup ∈ tl) (hm : ∀ p ∈ M2 rl nl sb ts, m p.1 = some p.2) (F : Fr h₀ L s.heap m) (N : News h₀ L s.heap ((rl, W.listOf (Value.ref r.D :: rv).toArray rk) :: (nl, oN) :: tl)) :
    wpAny (model PySem.Challenge.rw_vq0009_01.row.prog w) (callerA.deeper (envOf (PySem.Str.ofString "law") (by_elab lawScopeE) L fa cd)) (exec (by_elab lawStmtE 4) (envOf (PySem.Str.ofString "law") (by_elab lawScopeE) L fa cd)) (fun f s' => f = .next ∧ ∃ h' tk m' sb' ts' tp, s' = { s with heap := h', toks := tk } ∧ KBw.bInts sb' = pre ++ pv r.n ∧ (∀ p ∈ M3 rl nl sb' ts' 0 tp, m' p.1 = some p.2) ∧ Fr h₀ L h' m' ∧ News h₀ L h' ((rl, W.listOf (Value.ref r.D :: rv).toArray rk) :: (nl, oN) :: tl)) E s := by
  revert X
  run_tac afresh
  k_fill
  intro X
  have em : m = kstB m (M2 rl nl sb ts) := (kstB_self hm).symm
  have hv1 : (pv r.n).length ≤ 16 := by have := pv_len 9 r.n (Nat.lt_of_lt_of_le hr.lt (by decide)); omega
  have h1 := hr.one
  generalize hR : (fun (f : Flow) (s' : Shared) => f = .next ∧ ∃ h' tk m' sb' ts' tp, s' = { s with heap := h', toks := tk } ∧ KBw.bInts sb' = pre ++ pv r.n ∧ (∀ p ∈ M3 rl nl sb' ts' 0 tp, m' p.1 = some p.2) ∧ Fr h₀ L h' m' ∧ News h₀ L h' ((rl, W.listOf (Value.ref r.D :: rv).toArray rk) :: (nl, oN) :: tl)) = R
  have hF : Fr h₀ L s.heap (kstB m (M2 rl nl sb ts)) := em ▸ F
  simp only [kstB] at hF
  clear F hm
  have N2 := News.dup N (List.mem_cons_of_mem _ (List.mem_cons_of_mem _ hrm))
  simp only [Row.tup] at N2
  clear N
  k_steps
  subst hR
  rename Fr h₀ L _ _ => F9
  rename News h₀ L _ _ => N9
  rename KBw.bInts _ = _ ++ _ => e9
  refine' ⟨rfl, _, _, _, _, _, _, rfl, e9, ?c, F9, cb_drop N9 ?d⟩
  (case c => intro p hp; simp only [M3, List.mem_cons, List.not_mem_nil, or_false] at hp; rcases hp with rfl | rfl | rfl | rfl <;> rfl)
  (case d => walk_at "vq tail")
end
section
theorem seqK {M : Model} {A : Around} {E : Value → Shared → Prop} {s : Shared} {env : Env} {st : Stmt} {rest : List Stmt} {Q : Flow → Shared → Prop} {P : Shared → Prop} (h : wpAny M A (exec st env) (fun f s' => f = .next ∧ P s') E s) (k : ∀ s', P s' → wpAny M A (execs rest env) Q E s') : wpAny M A (execs (st :: rest) env) Q E s :=
  wpAny_execs_cons (wpAny_mono h (fun f s' g => by obtain ⟨rfl, p⟩ := g; exact k s' p) fun _ _ e => e)
theorem lastK {M : Model} {A : Around} {E : Value → Shared → Prop} {s : Shared} {env : Env} {st : Stmt} {v : Value} {P : Shared → Prop} (h : wpAny M A (exec st env) (fun f s' => f = .ret v ∧ P s') E s) : wpAny M A (execs [st] env) (fun f s' => f = .ret v ∧ P s') E s :=
  wpAny_execs_cons (wpAny_mono h (fun f s' g => by obtain ⟨rfl, p⟩ := g; exact ⟨rfl, p⟩) fun _ _ e => e)
theorem intsOfNat : ∀ {nv : List Value} {ns : List Nat}, nv.length = ns.length → (∀ (j m : Nat), ns[j]? = some m → ∃ t, nv[j]? = some (Value.int ((m : Nat) : Int) t)) → IntsAre nv (ns.map fun n : Nat => (n : Int))
  | [], [], _, _ => .nil
  | v :: nv, n :: ns, h, h2 => by
    obtain ⟨t, e⟩ := h2 0 n rfl
    have e' : v = .int (n : Int) t := Option.some.inj e
    subst e'
    exact .cons _ t (intsOfNat (by simpa using h) fun j m hj => h2 (j + 1) m (by simpa using hj))
theorem lawBody (w : World) (loose : List Str) (mean : ExcName → Option Value) (mg mb : Str → Option Value) (h₀ : Heap) (L fa : Addr) (cd : Value) (E : Value → Shared → Prop) (hPE : PassesOwn (model PySem.Challenge.rw_vq0009_01.row.prog w) (callerA.deeper (envOf (PySem.Str.ofString "law") (by_elab lawScopeE) L fa cd)) (envOf (PySem.Str.ofString "law") (by_elab lawScopeE) L fa cd) E)
    (B : Below callerA h₀ [] h₀) (X : (hd.heap_39 w.params).In h₀) (T : Top topProg loose mean mg mb h₀) (C1 : CodeHd h₀ 116 112) (C2 : CodeHd h₀ 70 66) (nl a0 : Addr) (vs : List Value) (xs : List Int) (hl : h₀.IsList a0 vs.toArray) (hI : IntsAre vs xs) (h63 : ¬ ((63 : Nat) : Int) < ((xs.length : Nat) : Int)) (hlay : (PyData.list (xs.map PyData.int)).layable0 = true) (rest tl : List (Addr × Obj)) (htl : TL rest tl) (hS : Sep [nl] tl)
    (s : Shared) (m : Str → Option Value) (F : Fr h₀ L s.heap m) (N : News h₀ L s.heap ((nl, W.listOf #[] 0) :: tl)) (hm : ∀ p ∈ ([(Str.ofString "numbers", .ref nl), (Str.ofString "script", .ref a0)] : List (Str × Value)), m p.1 = some p.2) :
    wpAny (model PySem.Challenge.rw_vq0009_01.row.prog w) (callerA.deeper (envOf (PySem.Str.ofString "law") (by_elab lawScopeE) L fa cd)) (execs (by_elab lawFromE 1) (envOf (PySem.Str.ofString "law") (by_elab lawScopeE) L fa cd)) (fun f s' => f = .ret (.bool true) ∧ ∃ h' tk m' rest' tl', s' = { s with heap := h', toks := tk } ∧ TL rest' tl' ∧ Fr h₀ L h' m' ∧ News h₀ L h' tl') E s := by
  refine seqK (st1 w loose mean mg mb h₀ L fa cd E hPE B X T nl a0 vs xs hl hI h63 hlay rest tl htl hS s m F N hm) ?_
  rintro s1 ⟨h1, tk1, m1, ns, nv, k, rfl, hlo, h6, hlen, hI', hns, hk1, F1, N1⟩
  refine seqK (st2 w h₀ L fa cd E X _ m1 nl _ tl (by intro p hp; rw [List.mem_singleton.mp hp]; exact hk1) F1 N1) ?_
  rintro s2 ⟨h2, tk2, m2, rl, ts, rfl, hrl, hrt, hm2, F2, N2⟩
  refine seqK (st3 w loose mean mg mb h₀ L fa cd E hPE B X T C1 C2 rl nl hrl nv k ns rest tl htl (.cons hrt hS) hlen hI' hns h6 ts _ m2 F2 N2 hm2) ?_
  rintro s3 ⟨h3, tk3, m3, tl3, rows, rk, b, tb, rfl, hrn, hrows, T3, S3, hb3, hm3, F3, N3⟩
  have hrl6 : rows.length ≤ 6 := by rw [← hrn, List.length_map] at h6; exact h6
  have hr0 : rows.length ≠ 0 := by rw [← hrn, List.length_map] at hlo; omega
  obtain ⟨r, rows', hrr⟩ : ∃ r rows', rows = r :: rows' := by
    cases rows with
    | nil => exact absurd rfl hr0
    | cons r rows' => exact ⟨r, rows', rfl⟩
  have hrmem : r ∈ rows := by rw [hrr]; exact .head _
  have hmap : rows.map Row.ref = Value.ref r.D :: rows'.map Row.ref := by rw [hrr]; rfl
  have hfl := rows_len hrows
  rw [hmap] at N3
  have hrt3 : r.tup ∈ rows.map Row.tup ++ rest := List.mem_append_left _ (List.mem_map.mpr ⟨r, hrmem, rfl⟩)
  refine seqK (st4 w h₀ L fa cd E X _ m3 rl nl r (rows'.map Row.ref) rk tl3 _ (hrows r hrmem) b tb _ hb3 (by omega) (T3.has hrt3) hm3 F3 N3) ?_
  rintro s4 ⟨h4, tk4, m4, sb, ts4, tp4, rfl, hsb, hm4, F4, N4⟩
  rw [← hmap] at N4
  have hv1 : (pv r.n).length ≤ 16 := by have := pv_len 9 r.n (Nat.lt_of_lt_of_le (hrows r hrmem).lt (by decide)); omega
  refine seqK (st5 w loose mean mg mb h₀ L fa cd E hPE B X T C1 C2 rl nl hrl rows rk nv k rest tl3 hrows T3 S3 sb ts4 tp4 (pv r.n) hsb (by rw [hsb, List.length_append]; omega) _ m4 F4 N4 hm4) ?_
  rintro s5 ⟨h5, tk5, m5, tl5, tp5, rfl, T5, S5, hm5, F5, N5⟩
  rw [hmap] at N5
  refine seqK (st6 w loose mean mg mb h₀ L fa cd E B X T C1 C2 rl nl nv k rk r (rows'.map Row.ref) (rows.map Row.tup ++ rest) tl5 hrl sb ts4 tp5 (hrows r hrmem) _ hsb (by omega) hrt3 T5 S5 _ m5 F5 N5 (fun p hp => hm5 p (.tail _ hp))) ?_
  rintro s6 ⟨h6', tk6, tl6, rfl, T6, S6, F6, N6⟩
  rw [← hmap] at N6
  refine seqK (st7 w loose mean mg mb h₀ L fa cd E hPE X T rl nl rows rk nv k rest tl6 hrows T6 _ m5 F6 N6 ?_) ?_
  · intro p hp
    simp only [ps4, List.mem_cons, List.not_mem_nil, or_false] at hp
    rcases hp with rfl | rfl
    · exact hm5 _ (.head _)
    · exact hm5 _ (.tail _ (.head _))
  rintro s7 ⟨h7, tk7, m7, rfl, hk7, F7, N7⟩
  refine seqK (st8 w loose mean mg mb h₀ L fa cd E B X T C1 C2 _ m7 _ F7 N7) ?_
  rintro s8 ⟨h8, tk8, rfl, F8, N8⟩
  have hI9 := intsOfNat hlen hI'
  have h69 : (ns.map fun n : Nat => (n : Int)).length ≤ 6 := by rw [List.length_map]; exact h6
  refine seqK (st9 w loose mean mg mb h₀ L fa cd E X T nl nv k _ hI9 h69 tl6 _ m7 F8 N8 (by intro p hp; rw [List.mem_singleton.mp hp]; exact hk7)) ?_
  rintro s9 ⟨D, ys, n9, h9, tk9, m9, rfl, hI2, k1, k2, F9, N9⟩
  have hns9 : ∀ n ∈ (ns.map fun n : Nat => (n : Int)), 0 ≤ n ∧ n < 18446744073709551616 := by
    intro n hn
    obtain ⟨a, ha, rfl⟩ := List.mem_map.mp hn
    have := hns a ha
    exact ⟨by omega, by omega⟩
  refine wpAny_mono (lastK (st10 w loose mean mg mb h₀ L fa cd E B X T nl D nv ys k n9 _ hI9 hI2 hns9 h69 tl6 _ m9 F9 N9 ?_)) ?_ fun _ _ e => e
  · intro p hp
    simp only [List.mem_cons, List.not_mem_nil, or_false] at hp
    rcases hp with rfl | rfl
    · exact k1
    · exact k2
  rintro f s' ⟨rfl, h10, tk10, m10, rfl, F10, N10⟩
  exact ⟨rfl, h10, tk10, m10, _, tl6, rfl, T6, F10, N10⟩
end
section
theorem TL.tabs {rest tl : List (Addr × Obj)} (h : TL rest tl) : (∃ ps, (112, tabObj ps) ∈ tl) ∧ ∃ ps, (66, tabObj ps) ∈ tl := by
  obtain ⟨ledV, ledD, h1, h2, _, _, rfl⟩ := h
  refine ⟨?_, ?_⟩
  · cases h2 with
    | fresh => exact ⟨_, List.mem_append_right _ (List.mem_append_left _ (.head _))⟩
    | made => exact ⟨_, List.mem_append_right _ (List.mem_append_left _ (.tail _ (.head _)))⟩
  · cases h1 with
    | fresh => exact ⟨_, List.mem_append_left _ (.head _)⟩
    | made => exact ⟨_, List.mem_append_left _ (.tail _ (.head _))⟩
theorem TL.start : TL [] [(66, tabObj #[]), (112, tabObj #[])] := ⟨[(66, tabObj #[])], [(112, tabObj #[])], .fresh, .fresh, by
  intro p hp q hq
  simp only [List.append_nil, List.mem_singleton] at hp hq
  subst hp; subst hq
  exact (by decide : (112 : Nat) ≠ 66), by
  intro p hp q hq
  simp only [List.append_nil, List.mem_singleton] at hp hq
  subst hp; subst hq
  exact (by decide : (66 : Nat) ≠ 112), rfl⟩
theorem grown_end {rest tl : List (Addr × Obj)} {h₀ h : Heap} {L : Addr} (T : TL rest tl) (N : News h₀ L h tl) : GrownAll [(116, 112), (70, 66)] h := by
  obtain ⟨⟨p1, m1⟩, ⟨p2, m2⟩⟩ := T.tabs
  exact ⟨GrownAt.of N m1, GrownAt.of N m2, trivial⟩
local macro_rules | `(tactic| walk_at "execs cons") => `(tactic| ((with_reducible show wpAny _ _ (execs (Stmt.For _ _ _ _ _ :: _) _) _ _ _); refine Stop.on ?_))
set_option maxRecDepth 100000 in
set_option maxHeartbeats 8000000 in
theorem t : PySem.Challenge.rw_vq0009_01.Holds := hd2 (by
  run_tac afresh
  k_fill
  intro w s₀ s₁ mg mb G Y fa o pm cd doc dV kV ho hd hcd hD hmg hg args vals as hpre hlay hrd hwl hlo
  have KX := km_in_of Y
  km_tabs Y
  have X := (Ground.X G).1
  have V := (Ground.X G).2
  refine Ground.open G ?_
  intro T B D TE TW
  try (refine guard_noD D (by decide +kernel) ?_; clear D)
  km_lay T hmg ho hd cd
  clear hmg
  wrow_args hpre hlay hrd hwl hlo
  all_goals (
    refine enterNG ?_
    w_top on
    refine postNG hT9 (fun _ _ => rfl) ?_
    w_call any ho hd hcd hD T F
    clear hd
    kn_ghosts F T
    k_drop
    k_steps
    skip)
  all_goals (
    refine Stop.off ?_
    rename Fr _ _ _ _ => F9
    rename News _ _ _ _ => N9
    rename Below _ _ _ _ => B9
    rename Top topProg _ _ _ _ _ => T9
    rename IntsAre _ _ => I9
    rename Heap.IsList (ghostOf _ _) _ _ => l9)
  all_goals (
    refine' wpAny_mono (lawBody _ _ _ _ _ _ _ _ _ _ ?hPE B9 (by assumption) T9 (by assumption) (by assumption) _ _ _ _ l9 I9 (by assumption) (by assumption) [] [(66, tabObj #[]), (112, tabObj #[])] TL.start ?hS _ _ F9 (cb_drop N9 ?hN) ?hm) ?_ fun _ _ e => e
    (case hm => intro p hp; simp only [List.mem_cons, List.not_mem_nil, or_false] at hp; rcases hp with rfl | rfl <;> rfl)
    (case hPE => passes_own)
    (case hS =>
      refine Sep.cons ?_ Sep.nil
      intro q hq
      simp only [List.mem_cons, List.not_mem_nil, or_false] at hq
      rcases hq with rfl | rfl
      · exact Nat.ne_of_lt (by omega)
      · exact Nat.ne_of_lt (by omega))
    (case hN =>
      intro p hp
      simp only [List.mem_cons, List.not_mem_nil, or_false] at hp
      rcases hp with rfl | rfl | rfl
      · walk_at "vq mem"
      · walk_at "vq mem"
      · walk_at "vq mem")
    clear F9 N9
    rintro f s' ⟨rfl, h10, tk10, m10, rest', tl', rfl, T10, F10, N10⟩
    refine ⟨?_, grown_end T10 N10⟩)
  all_goals (k_steps))
end
end Mine

theorem PySem.Challenge.cw_vq0009_01_holds : PySem.Challenge.rw_vq0009_01.Holds :=
  Mine.t
