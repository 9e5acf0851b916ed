import PyProof.Rows.All
import Wide.All
import OpenK.AllK
import Wide.FinOn
import Open.Tops
import KE.KNestM
import Lean
import PySem.Challenge.RW_ae5031_04
set_option Elab.async false
set_option linter.all false
set_option linter.unusedVariables false
section
theorem Mine.freshG1 : True := by
  run_tac (do PyProof.Rows.walkLines.set (0, {}); PyProof.Rows.walkHit.set {}; PyProof.Rows.walkTop.set false; PyProof.Rows.walkStart.set 0; PyProof.Rows.walkLate.set false)
  trivial
set_option Elab.async false
set_option maxRecDepth 100000
set_option maxHeartbeats 0
namespace Mine
open Lean Meta Elab PySem PySem.W
def swift (e : Lean.Expr) : MetaM Lean.Expr := do
  let ds ← Fast.twinsIn e
  let places : Std.HashMap Lean.Expr Nat := ds.zipIdx.foldl (fun m (d, i) => m.insert d.1 i) {}
  return Fast.putIn places (fun i => (ds[i]!).2.1) e
abbrev Cell := Obj × Obj × Lean.Expr
def say (m : String) : IO Unit := pure ()
def writeObjs (old : Array Cell) (s s' : Shared) : MetaM (Array Cell) := do
  unless s.heap.objs.size == s'.heap.objs.size && s.toks == s'.toks do throwError "the worlds part"
  let mut out : Array Cell := #[]
  for i in [0:s.heap.objs.size] do
    let (o, o') := (s.heap.objs[i]!, s'.heap.objs[i]!)
    let kept := match old[i]? with
      | some (a, a', e) => if sameObjNow a o && sameObjNow a' o' then some e else none
      | none => none
    match kept with
    | some e => out := out.push (o, o', e)
    | none =>
      let v ← withLocalDeclD `P (mkConst ``Params) fun q => do
        let e := objE q o
        unless e == objE q o' do throwError "an object is the world's: {i}"
        mkLambdaFVars #[q] (← swift e)
      let c ← defAt `o (← mkArrow (mkConst ``Params) (mkConst ``Obj)) v
      Fast.primed.modify (·.insert c.getAppFn.constName! none)
      out := out.push (o, o', c)
  return out
structure Spot where
  cells : Array Cell
  tree : Lean.Expr
  n : Nat
  toks : Nat
  pos : Pos
def Spot.at (x : Spot) (w os : Lean.Expr) : Lean.Expr :=
  mkAppN (mkConst ``SharedT.mk) #[mkApp x.tree (mkApp (mkConst ``World.params) w), mkRawNatLit x.n, toExpr ({} : Life),
    mkApp2 (mkConst ``Array.mk [0]) (mkConst ``GenState) (mkApp (mkConst ``List.nil [0]) (mkConst ``GenState)), toExpr ({} : Drawn), mkRawNatLit x.toks, os]
def spotOf (old : Array Cell) (s s' : Shared) (pos : Pos) : MetaM Spot := do
  unless s.gens.isEmpty && s'.gens.isEmpty do throwError "a generator"
  let cells ← writeObjs old s s'
  let os := cells.map (·.2.2)
  let v ← withLocalDeclD `P (mkConst ``Params) fun q => mkLambdaFVars #[q] (treeE q os 1 0)
  let t ← defAt `tree (← mkArrow (mkConst ``Params) (mkConst ``BT)) v
  Fast.primed.modify (·.insert t.getAppFn.constName! none)
  return { cells, tree := t, n := s.heap.objs.size, toks := s.toks, pos }
def lem (ty pf : Lean.Expr) : MetaM Lean.Expr := return mkConst (← withOptions (Elab.async.set · false) (mkAuxLemma [] ty pf (cache := false)))
def genTop (nm : Name) (pE : Lean.Expr) (i0 i1 : Nat) (start : Option (Array Name × Name)) : Term.TermElabM Unit := do
  let p ← progOf pE
  let (t, t') ← match ← traceTop p 40000 1, ← traceTop p 40000 2 with
    | .ok t, .ok t' => pure (t, t')
    | .error m, _ | _, .error m => throwError "{m}"
  let (tb, m0, annE) := (mkConst ``treeTable, mkRawNatLit t.s0.heap.objs.size, toExpr t.ann)
  let bE ← mkAppM ``behindTheImports #[pE]
  let some stmts ← cellsD? bE | throwError "the body"
  let snaps := t.pieces.toArray.zip t'.pieces.toArray
  unless stmts.length == snaps.size do throwError "the body"
  let known := (topsExt.getState (← getEnv)).toList.head?
  let envE ← match known with
    | some e => pure (mkConst e.env)
    | none => do
      let scope ← mkAppM ``Module.scope #[← mkAppM ``Program.main #[pE]]
      let pS ← Term.exprToSyntax scope
      let cS ← Term.exprToSyntax (toExpr t.code)
      let e ← Term.withSynthesize (Term.elabTermEnsuringType (← `(({ scope := $pS, locals := mainNs, globals := mainNs, cells := [], code := $cS, frame := some $(quote t.frame) } : Env))) (mkConst ``Env))
      defAt `env (mkConst ``Env) (← instantiateMVars e)
  let qE := toExpr t.framePos
  let B := listE (mkConst ``Frame) [mkApp (mkConst ``topFrame) qE]
  let cd (b : Lean.Expr) := mkApp2 (mkConst ``Code.body) b envE
  let rst (n : Nat) (f : Name) (w p : Lean.Expr) (s th : Lean.Expr) := mkAppN (mkConst f) #[tb, p, w, m0, annE, mkRawNatLit 1, mkRawNatLit n, s, th]
  let before : Snap × Snap ← if i0 == 0 then pure (t.block, t'.block) else match snaps[i0 - 1]? with
    | some x => pure x
    | none => throwError "no such statement"
  let S0 : Spot ← match start with
    | none => do
      let o0 : Array Cell := (Array.range t.s0.heap.objs.size).map fun i => (t.s0.heap.objs[i]!, t'.s0.heap.objs[i]!, mkConst ((`PySem.W).str s!"boot_o_{i}"))
      let oP ← layObjs o0 t.pre.s t'.pre.s
      let oB ← layObjs oP before.1.s before.2.s
      spotOf oB before.1.s before.2.s before.1.pos
    | some (objs, tree) =>
      let (s, s') := (before.1.s, before.2.s)
      pure { cells := objs.mapIdx fun i n => (s.heap.objs[i]!, s'.heap.objs[i]!, mkConst n), tree := mkConst tree, n := s.heap.objs.size, toks := s.toks, pos := before.1.pos }
  let mut groups : Array (Nat × Nat × Nat × List String) := #[]
  for i in [i0:i1] do
    let some (x, x') := snaps[i]? | throwError "no such statement"
    let k := max x.steps x'.steps
    let rows := (x.rows ++ x'.rows).eraseDups
    match groups.back? with
    | some (a, _, k', rows') =>
      if k' + k ≤ 400 && (rows' ++ rows).eraseDups.length ≤ 3 then groups := groups.pop.push (a, i + 1, k' + k, (rows' ++ rows).eraseDups)
      else groups := groups.push (i, i + 1, k, rows)
    | none => groups := groups.push (i, i + 1, k, rows)
  let mut S := S0
  let mut done : Array (Lean.Expr × Nat × Spot × Spot × Lean.Expr) := #[]
  for (a, b, steps, rows) in groups do
    let tm0 ← IO.monoMsNow
    let some (x, x') := snaps[b - 1]? | throwError "no such statement"
    let stE ← defAt `sts (mkApp (mkConst ``List [0]) (mkConst ``Stmt)) (listE (mkConst ``Stmt) ((stmts.drop a).take (b - a)))
    let S1 := S
    let S2 ← spotOf S1.cells x.s x'.s x.pos
    let whole (b : Lean.Expr) : Lean.Expr := mkAppN (mkConst ``piecesOf) #[stE, envE, cd b, toExpr S1.pos, B]
    let fin (w b os : Lean.Expr) : MetaM Lean.Expr := do mkAppM ``some #[← mkAppM ``Prod.mk #[mkConst ``Flow.next, ← mkAppM ``Prod.mk #[S2.at w os, ← mkAppM ``Prod.mk #[cd b, toExpr S2.pos]]]]
    let tm1 ← IO.monoMsNow
    let from_ : Snap × Snap ← if a == i0 then pure before else match snaps[a - 1]? with
      | some x => pure x
      | none => throwError "no such statement"
    let th := piecesOf ((t.body.drop a).take (b - a)) t.benv t.bcode S1.pos [topFrame t.framePos]
    let th' := piecesOf ((t'.body.drop a).take (b - a)) t'.benv t'.bcode S1.pos [topFrame t'.framePos]
    let (cuts, lastRows) ← if steps > 600 then cutsNow p 1 400 steps from_.1.s th else pure (#[], rows)
    let (cuts', lastRows') ← if steps > 600 then cutsNow p 2 400 steps from_.2.s th' else pure (#[], rows)
    unless cuts.size == cuts'.size do throwError "the worlds part"
    let mut parts : Array (Nat × Spot × (Lean.Expr → Lean.Expr → Lean.Expr → Lean.Expr → Lean.Expr) × Spot × (Lean.Expr → Lean.Expr → Lean.Expr → Lean.Expr → Lean.Expr) × Lean.Expr) := #[]
    let mut Sj := S1
    let mut thr : Lean.Expr → Lean.Expr → Lean.Expr → Lean.Expr → Lean.Expr := fun _ _ b _ => whole b
    let mut left := steps
    for ((c, sj, rj), (_, sj', rj')) in cuts.zip cuts' do
      let Sn ← spotOf Sj.cells sj sj' S1.pos
      let (Sp, tp) := (Sj, thr)
      let asked := (rj ++ rj').eraseDups
      let thrE ← withLocalDeclD `w (mkConst ``World) fun w => withLocalDeclD `p (mkConst ``Program) fun p => withLocalDeclD `b (mkApp (mkConst ``List [0]) (mkConst ``Stmt)) fun b => withLocalDeclD `os (mkConst ``OsState) fun os => do
        let W := asked.foldl (fun w r => mkApp3 (mkConst ``World.withFollow) w (mkStrLit r) (mkConst ``Bool.false)) w
        let r ← whnfQuick (rst c ``segGoT W p (Sp.at W os) (tp W p b os))
        unless r.isAppOfArity ``Option.some 2 do throwError "a cut: no state"
        let r2 ← Dig.kw r.appArg!
        unless r2.isAppOfArity ``Prod.mk 4 do throwError "a cut: no pair"
        let t2 := r2.appArg!
        mkLambdaFVars #[w, p, b, os] (if W == w then t2 else t2.replace fun x => if x == W then some w else none)
      let thrC ← defAt `thread (← inferType thrE) thrE
      Fast.primed.modify (·.insert thrC.getAppFn.constName! none)
      let tn (w p b os : Lean.Expr) : Lean.Expr := mkApp4 thrC w p b os
      let l ← byPieceS asked (fun w p b os => pure (rst c ``segGoT w p (Sp.at w os) (tp w p b os))) fun w p b os => do mkAppM ``some #[← mkAppM ``Prod.mk #[Sn.at w os, tn w p b os]]
      parts := parts.push (c, Sp, tp, Sn, tn, l)
      Sj := Sn
      thr := tn
      left := left - c
    let (Sl, tl) := (Sj, thr)
    let last ← byPieceS (lastRows ++ lastRows').eraseDups (fun w p b os => pure (rst (left + 1) ``segRunT w p (Sl.at w os) (tl w p b os))) fun w _ b os => fin w b os
    let (ty, pf) ← withLocalDeclD `w (mkConst ``World) fun w => withLocalDeclD `p (mkConst ``Program) fun p => withLocalDeclD `b (mkApp (mkConst ``List [0]) (mkConst ``Stmt)) fun b => withLocalDeclD `os (mkConst ``OsState) fun os => do
      let abs (S : Spot) := mkApp (mkConst ``SharedT.abs) (S.at w os)
      let mut k ← mkAppM ``segRun_of #[← atS last w p b os]
      let mut N := left + 1
      let some (_, _, r) := (← inferType k).eq? | throwError "an equation"
      for (c, Sp, tp, Sn, tn, l) in parts.toList.reverse do
        k := mkAppN (mkConst ``seg_go) #[tb, p, w, m0, annE, mkRawNatLit 1, mkRawNatLit c, mkRawNatLit N, abs Sp, abs Sn, tp w p b os, tn w p b os, r.appArg!, ← mkAppM ``segGo_of #[← atS l w p b os], k]
        N := c + N
      let want ← mkEq (mkAppN (mkConst ``segRun) #[tb, p, w, m0, annE, mkRawNatLit 1, mkRawNatLit N, abs S1, whole b]) r
      pure (← mkForallFVars #[w, p, b, os] want, ← mkLambdaFVars #[w, p, b, os] k)
    let l ← lem ty pf
    let tm2 ← IO.monoMsNow
    say s!"{a}..{b} steps {steps} cuts {cuts.size}: state {tm1 - tm0} lemma {tm2 - tm1} objs {S2.n}"
    done := done.push (stE, steps + 1, S1, S2, l)
    S := S2
  let stL := mkApp (mkConst ``List [0]) (mkConst ``Stmt)
  let (ty, pf) ← withLocalDeclD `p (mkConst ``Program) fun p => withLocalDeclD `b stL fun b => withLocalDeclD `w (mkConst ``World) fun w => withLocalDeclD `os (mkConst ``OsState) fun os =>
    withLocalDeclD `rest stL fun rest => withLocalDeclD `N (mkConst ``Nat) fun N => withLocalDeclD `r (mkConst ``Shared) fun r => do
      let abs (S : Spot) := mkApp (mkConst ``SharedT.abs) (S.at w os)
      let someR ← mkAppM ``some #[r]
      let claim (S : Spot) (N rest : Lean.Expr) : MetaM Lean.Expr := mkEq (mkAppN (mkConst ``topRun) #[tb, p, w, m0, annE, N, abs S, mkAppN (mkConst ``restOf) #[rest, envE, cd b, toExpr S.pos, B]]) someR
      withLocalDeclD `h (← claim S N rest) fun h => do
        let mut k := h
        let mut N' := N
        let mut rs := rest
        for (stE, n, S1, S2, l) in done.toList.reverse do
          k := mkAppN (mkConst ``piece_app) #[tb, p, w, m0, annE, envE, qE, mkRawNatLit n, N', abs S1, abs S2, r, stE, rs, cd b, toExpr S1.pos, toExpr S2.pos, mkAppN l #[w, p, b, os], k]
          N' := mkApp2 (mkConst ``Nat.add) (mkRawNatLit n) N'
          rs ← mkAppM ``HAppend.hAppend #[stE, rs]
        pure (← mkForallFVars #[p, b, w, os, rest, N, r, h] (← claim S0 N' rs), ← mkLambdaFVars #[p, b, w, os, rest, N, r, h] k)
  addDecl (.thmDecl { name := nm ++ `chain, levelParams := [], type := ty, value := pf })
  let note (S : Spot) : TopState := { tree := S.tree.constName!, n := S.n, life := toExpr ({} : Life), gens := mkApp2 (mkConst ``Array.mk [0]) (mkConst ``GenState) (mkApp (mkConst ``List.nil [0]) (mkConst ``GenState)), drawn := toExpr ({} : Drawn), toks := mkRawNatLit S.toks, objs := S.cells.map (·.2.2.constName!) }
  let o0 := (Array.range t.s0.heap.objs.size).map fun i => (`PySem.W).str s!"boot_o_{i}"
  let e : TopEntry := { cells := ((stmts.drop i0).take (i1 - i0)).toArray, groups := done.map (·.1.constName!), steps := done.map (·.2.1), chain := nm ++ `chain, env := envE.constName!, m0, ann := annE, q := qE, posB := toExpr S0.pos, posK := toExpr S.pos, o0, sB := note S0, sK := note S }
  modifyEnv fun env => topsExt.addEntry env e
end Mine
end
section
theorem Mine.freshG2 : True := by
  run_tac (do PyProof.Rows.walkLines.set (0, {}); PyProof.Rows.walkHit.set {}; PyProof.Rows.walkTop.set false; PyProof.Rows.walkStart.set 0; PyProof.Rows.walkLate.set false)
  trivial
open PySem PySem.W Lean Lean.Elab Lean.Elab.Tactic
set_option Elab.async false
set_option maxRecDepth 100000
set_option maxHeartbeats 0
namespace Mine
theorem topA : True := by
  run_tac Term.withDeclName `Mine.topA (genTop `Mine.topA (mkConst ``PySem.Challenge.pw_ae5031_04) 0 47 none)
  trivial
end Mine
end
section
theorem Mine.freshE0 : True := by
  run_tac (do PyProof.Rows.walkLines.set (0, {}); PyProof.Rows.walkHit.set {}; PyProof.Rows.walkTop.set false; PyProof.Rows.walkStart.set 0; PyProof.Rows.walkLate.set false)
  trivial
open PySem PySem.W
set_option Elab.async false
set_option maxRecDepth 100000
set_option maxHeartbeats 0
namespace Mine
def bHash (P : Params) (c : UInt8) : Int := reduceHash (P.strHash #[c.toNat])
def bEnt (P : Params) (c : UInt8) (t : Nat) (v : Int) : DictEntry := ⟨bHash P c, .bytes #[c] t, .int v (t + 1)⟩
def escEnts (P : Params) : List DictEntry := [bEnt P 98 829 8, bEnt P 116 831 9, bEnt P 110 833 10, bEnt P 102 835 12, bEnt P 114 837 13, bEnt P 40 839 40, bEnt P 41 841 41, bEnt P 92 843 92]
def o476 (P : Params) : Obj := { cls := .type "dict", data := .dict (escEnts P).toArray 8 }
noncomputable def o3' (P : Params) : Obj := Obj.mapDictKeys (·.push ⟨PyData.keyHash P (Str.ofString "ESC_STRING"), .str (Str.ofString "ESC_STRING") 853, .ref 476⟩) (Mine.topA.o_550 P)
noncomputable def tree48 (P : Params) : BT := ((Mine.topA.tree_557 P).ins 476 (o476 P)).set 3 (fun _ => o3' P)
end Mine
end
section
theorem Mine.freshE1 : True := by
  run_tac (do PyProof.Rows.walkLines.set (0, {}); PyProof.Rows.walkHit.set {}; PyProof.Rows.walkTop.set false; PyProof.Rows.walkStart.set 0; PyProof.Rows.walkLate.set false)
  trivial
open PySem PySem.W PyProof.Rows
set_option Elab.async false
set_option maxRecDepth 100000
set_option maxHeartbeats 4000000
namespace Mine
abbrev posK : Pos := ⟨140, 0, 140, 10⟩
abbrev posK2 : Pos := ⟨141, 0, 141, 10⟩
abbrev noPos : Pos := ⟨0, 0, 0, 0⟩
abbrev annV : Option Value := some (.ref 6)
abbrev B0 : List Frame := [topFrame noPos]
section
variable (p : Program) (w : World) (c : Code)
def Fits {α : Type} (n : Nat) (m : Sem α) (s : Shared) (pos : Pos) (a : α) (s' : Shared) (pos' : Pos) : Prop :=
  ∀ (K : α → Sem Fin) (N : Nat) (r : Flow × Shared × Code × Pos), segRun treeTable p w 11 annV 1 N s' ⟨K a, c, pos', B0⟩ = some r →
    segRun treeTable p w 11 annV 1 (N + n) s ⟨m.wrap K deadEnd id id, c, pos, B0⟩ = some r
theorem segRun_more : ∀ (k N : Nat) (s : Shared) (t : Thread) (r : Flow × Shared × Code × Pos), segRun treeTable p w 11 annV 1 N s t = some r → segRun treeTable p w 11 annV 1 (N + k) s t = some r
  | _, 0, _, _, _, h => by simp [segRun] at h
  | k, N + 1, s, t, r, h => by
    rw [show N + 1 + k = (N + k) + 1 by omega]
    unfold segRun at h ⊢
    split
    · rename_i f hf; rw [hf] at h; exact h
    · rename_i hf
      rw [hf] at h
      dsimp only at h
      split at h
      · cases h
      · rename_i hk
        split at h
        · rename_i s' t' hs
          exact segRun_more k N s' t' r h
        · cases h
variable {p w c}
theorem Fits.more {α : Type} {n n' : Nat} {m : Sem α} {s s' : Shared} {pos pos' : Pos} {a : α} (x : Fits p w c n m s pos a s' pos') (h : n ≤ n') : Fits p w c n' m s pos a s' pos' := fun K N r q => by
  have := segRun_more p w (n' - n) _ _ _ _ (x K N r q)
  rwa [show N + n + (n' - n) = N + n' by omega] at this
theorem Fits.pure {α : Type} {s : Shared} {pos : Pos} (a : α) : Fits p w c 0 (Pure.pure a : Sem α) s pos a s pos := fun _ _ _ q => q
theorem Fits.bind {α β : Type} {n n' : Nat} {m : Sem α} {f : α → Sem β} {s s' s'' : Shared} {pos pos' pos'' : Pos} {a : α} {b : β}
    (x : Fits p w c n m s pos a s' pos') (y : Fits p w c n' (f a) s' pos' b s'' pos'') : Fits p w c (n' + n) (m >>= f) s pos b s'' pos'' := fun K N r q => by
  have e : (m >>= f).wrap K deadEnd id id = m.wrap (fun a => (f a).wrap K deadEnd id id) deadEnd id id := by
    rw [Sem.bind_eq_wrap', Sem.wrap_wrap]; rfl
  rw [e, ← Nat.add_assoc]
  exact x _ _ _ (y K N r q)
end
section
variable {p : Program} {w : World} {c : Code} {α : Type}
variable {heap : Heap} {gens : Array GenState} {drawn : Drawn} {toks : Nat} {os : OsState} {pos : Pos}
theorem Fits.rule {t : String} : Fits p w c 1 (PySem.rule t) ⟨heap, gens, drawn, toks, os⟩ pos () ⟨heap, gens, drawn, toks, os⟩ pos := fun _ _ _ q => q
theorem Fits.point : Fits p w c 1 PySem.point ⟨heap, gens, drawn, toks, os⟩ pos () ⟨heap, gens, drawn, toks, os⟩ pos := fun _ _ _ q => q
theorem Fits.at {pos' : Pos} : Fits p w c 1 (standAt pos') ⟨heap, gens, drawn, toks, os⟩ pos () ⟨heap, gens, drawn, toks, os⟩ pos' := fun _ _ _ q => q
theorem Fits.load {a : Addr} {q : Option Value} {o : Obj} (h : heap.get? a = some o) : Fits p w c 1 (loadPart a q) ⟨heap, gens, drawn, toks, os⟩ pos o ⟨heap, gens, drawn, toks, os⟩ pos := fun K N r x => by
  show segRun treeTable p w 11 annV 1 (N + 1) _ ⟨Sem.load a q fun o => K o, c, pos, B0⟩ = some r
  unfold segRun
  show (match stepOk 11 annV ⟨Sem.load a q fun o => K o, c, pos, B0⟩ with | false => none | true => match (match heap.get? a with | some o => Step.go ⟨heap, gens, drawn, toks, os⟩ ⟨K o, c, pos, B0⟩ | none => _) with | .go s' t' => segRun treeTable p w 11 annV 1 N s' t' | .halt _ _ => none) = some r
  rw [h]
  exact x
end
theorem e1 (p : Program) (w : World) (b : List Stmt) (env : Env) (heap : Heap) (gens : Array GenState) (drawn : Drawn) (toks : Nat) (os : OsState) (pos : Pos) (t t' : Nat) (K : Bool → Sem Fin) (N : Nat) :
    segRun treeTable p w 11 annV 1 (N + 4) ⟨heap, gens, drawn, toks, os⟩ ⟨(eqBool (.bytes #[98] t) (.bytes #[116] t')).wrap K deadEnd id id, .body b env, pos, B0⟩ =
    segRun treeTable p w 11 annV 1 N ⟨heap, gens, drawn, toks, os⟩ ⟨K false, .body b env, pos, B0⟩ := by
  refine byRow2 "special-get-raises" (P := fun w => segRun treeTable p w 11 annV 1 (N + 4) ⟨heap, gens, drawn, toks, os⟩ ⟨(eqBool (.bytes #[98] t) (.bytes #[116] t')).wrap K deadEnd id id, .body b env, pos, B0⟩ =
    segRun treeTable p w 11 annV 1 N ⟨heap, gens, drawn, toks, os⟩ ⟨K false, .body b env, pos, B0⟩) (fun w => ?_) (fun w => ?_) w
  · kernel_rfl
  · kernel_rfl
end Mine
end
section
theorem Mine.freshE3 : True := by
  run_tac (do PyProof.Rows.walkLines.set (0, {}); PyProof.Rows.walkHit.set {}; PyProof.Rows.walkTop.set false; PyProof.Rows.walkStart.set 0; PyProof.Rows.walkLate.set false)
  trivial
open PySem PySem.W PyProof.Rows
set_option Elab.async false
set_option maxRecDepth 100000
set_option maxHeartbeats 4000000
namespace Mine
abbrev kp {α : Type} (m : Sem α) : Sem α := m.keep [.ref 476]
theorem kp_bind {α β : Type} (m : Sem α) (f : α → Sem β) : kp (m >>= f) = kp m >>= fun a => kp (f a) := by
  unfold kp
  simp only [Sem.keep_eq_wrap, Sem.bind_eq_wrap', Sem.wrap_wrap]
  rfl
theorem kp_pure {α : Type} (a : α) : kp (pure a : Sem α) = pure a := rfl
theorem reduceHash_in (i : Int) : -(2 ^ 63 : Int) ≤ reduceHash i ∧ reduceHash i < 2 ^ 63 ∧ reduceHash i ≠ -1 := by
  unfold reduceHash
  split
  · rename_i h
    simp only [Bool.and_eq_true, decide_eq_true_eq] at h
    split <;> rename_i q <;> simp only [beq_iff_eq] at q <;> omega
  · simp only
    have h1 : ((i.natAbs : Int) % (2 ^ 61 - 1)) < 2 ^ 61 - 1 := Int.emod_lt_of_pos _ (by decide)
    have h0 : 0 ≤ ((i.natAbs : Int) % (2 ^ 61 - 1)) := Int.emod_nonneg _ (by decide)
    generalize ((i.natAbs : Int) % (2 ^ 61 - 1)) = e at h0 h1
    by_cases hi : i < 0
    · simp only [if_pos hi]
      by_cases q : (-e == -1) = true
      · rw [if_pos q]; omega
      · rw [if_neg q]; simp only [beq_iff_eq] at q; omega
    · simp only [if_neg hi]
      by_cases q : (e == -1) = true
      · rw [if_pos q]; omega
      · rw [if_neg q]; simp only [beq_iff_eq] at q; omega
theorem reduced_same (i : Int) : pyHashByItsType.reduced (reduceHash i) = pure (reduceHash i) := by
  obtain ⟨a, b, c⟩ := reduceHash_in i
  unfold pyHashByItsType.reduced
  rw [if_pos (by simp only [Bool.and_eq_true, decide_eq_true_eq]; exact ⟨a, b⟩)]
  rw [if_neg (by simp only [beq_iff_eq]; exact c)]
section
variable (p : Program) (b : List Stmt) (env : Env) (heap : Heap) (gens : Array GenState) (drawn : Drawn) (toks : Nat) (os : OsState) (pos : Pos)
theorem hash_run (w : World) (c : UInt8) (t : Nat) (K : Int → Sem Fin) (N : Nat) :
    segRun treeTable p w 11 annV 1 (N + 6) ⟨heap, gens, drawn, toks, os⟩ ⟨(kp (pyHash (.bytes #[c] t))).wrap K deadEnd id id, .body b env, pos, B0⟩ =
    segRun treeTable p w 11 annV 1 N ⟨heap, gens, drawn, toks + 1, os⟩ ⟨(kp (pyHashByItsType.reduced (reduceHash (w.params.strHash #[c.toNat])))).wrap K deadEnd id id, .body b env, pos, B0⟩ := by
  refine byRow2 "special-get-raises" (P := fun w => segRun treeTable p w 11 annV 1 (N + 6) ⟨heap, gens, drawn, toks, os⟩ ⟨(kp (pyHash (.bytes #[c] t))).wrap K deadEnd id id, .body b env, pos, B0⟩ =
    segRun treeTable p w 11 annV 1 N ⟨heap, gens, drawn, toks + 1, os⟩ ⟨(kp (pyHashByItsType.reduced (reduceHash (w.params.strHash #[c.toNat])))).wrap K deadEnd id id, .body b env, pos, B0⟩) (fun w => ?_) (fun w => ?_) w
  · kernel_rfl
  · kernel_rfl
theorem hash_fits (w : World) (c : UInt8) (t : Nat) : Fits p w (.body b env) 6 (kp (pyHash (.bytes #[c] t))) ⟨heap, gens, drawn, toks, os⟩ pos (bHash w.params c) ⟨heap, gens, drawn, toks + 1, os⟩ pos := fun K N r q => by
  rw [hash_run, reduced_same]
  exact q
def NotSame (w : World) (x y : UInt8) : Prop := ∀ (t t' : Nat) (heap : Heap) (gens : Array GenState) (drawn : Drawn) (toks : Nat) (os : OsState) (pos : Pos), Fits p w (.body b env) 4 (kp (eqBool (.bytes #[x] t) (.bytes #[y] t'))) ⟨heap, gens, drawn, toks, os⟩ pos false ⟨heap, gens, drawn, toks, os⟩ pos
theorem apart_98_116 (w : World) : NotSame p b env w 98 116 := fun t t' heap gens drawn toks os pos K N r q => by
  have e : segRun treeTable p w 11 annV 1 (N + 4) ⟨heap, gens, drawn, toks, os⟩ ⟨(kp (eqBool (.bytes #[98] t) (.bytes #[116] t'))).wrap K deadEnd id id, .body b env, pos, B0⟩ =
    segRun treeTable p w 11 annV 1 N ⟨heap, gens, drawn, toks, os⟩ ⟨K false, .body b env, pos, B0⟩ := by
    refine byRow2 "special-get-raises" (P := fun w => segRun treeTable p w 11 annV 1 (N + 4) ⟨heap, gens, drawn, toks, os⟩ ⟨(kp (eqBool (.bytes #[98] t) (.bytes #[116] t'))).wrap K deadEnd id id, .body b env, pos, B0⟩ =
      segRun treeTable p w 11 annV 1 N ⟨heap, gens, drawn, toks, os⟩ ⟨K false, .body b env, pos, B0⟩) (fun w => ?_) (fun w => ?_) w
    · kernel_rfl
    · kernel_rfl
  rw [e]
  exact q
theorem walk_none (w : World) (y : UInt8) (t : Nat) (h : Int) (es : Array DictEntry) (n : Nat) (o : Obj) (ho : heap.get? 476 = some o) (hd : o.data = .dict es n)
    (hes : ∀ (i : Nat) (e : DictEntry), es[i]? = some e → ∃ (x : UInt8) (t' : Nat), e.key = Value.bytes #[x] t' ∧ NotSame p b env w x y) (l : List Nat) :
    Fits p w (.body b env) (10 * l.length) (kp (dictWalkPlain 476 (.bytes #[y] t) h es l)) ⟨heap, gens, drawn, toks, os⟩ pos none ⟨heap, gens, drawn, toks, os⟩ pos := by
  have ep : ∀ q : Option Value, Fits p w (.body b env) 1 (kp (dictEpoch 476 q)) ⟨heap, gens, drawn, toks, os⟩ pos n ⟨heap, gens, drawn, toks, os⟩ pos := fun q => by
    show Fits p w (.body b env) 1 (kp (loadPart 476 q >>= fun o => match o.data with | .dict _ n => pure n | _ => unsupported "internal:not-a-dict")) _ _ _ _ _
    rw [kp_bind]
    refine Fits.bind (n := 1) (n' := 0) (Fits.load ho) ?_
    rw [hd]
    exact Fits.pure _
  unfold dictWalkPlain
  rw [kp_bind]
  refine (Fits.bind (n := 10 * l.length) (n' := 0) (a := (none, ())) ?_ (by exact Fits.pure _)).more (by omega)
  induction l with
  | nil => exact Fits.pure _
  | cons i l ih =>
    rw [List.forIn_cons, kp_bind]
    rw [show 10 * (i :: l).length = 10 * l.length + 10 by simp only [List.length_cons]; omega]
    refine Fits.bind (n := 10) (n' := 10 * l.length) (a := ForInStep.yield (none, ())) ?_ ih
    cases he : es[i]? with
    | none => exact (Fits.pure (p := p) (w := w) _).more (by omega)
    | some e =>
      dsimp only
      by_cases hh : (e.hash == h) = true
      · rw [if_pos hh]
        obtain ⟨x, t', hk, na⟩ := hes i e he
        rw [hk]
        rw [kp_bind]
        refine (Fits.bind (n := 1) (n' := 6) (ep _) ?_).more (by omega)
        rw [kp_bind]
        refine (Fits.bind (n := 4) (n' := 2) (na t' t heap gens drawn toks os pos) ?_)
        rw [kp_bind]
        refine (Fits.bind (n := 1) (n' := 1) (ep _) ?_)
        rw [if_neg (by simp)]
        simp only [Bool.false_eq_true, if_false]
        rw [kp_bind]
        exact Fits.bind (n := 1) (n' := 0) Fits.rule (Fits.pure _)
      · rw [if_neg hh]
        exact (Fits.pure (p := p) (w := w) _).more (by omega)
theorem find_none (w : World) (y : UInt8) (t : Nat) (h : Int) (es : Array DictEntry) (n : Nat) (o : Obj) (ho : heap.get? 476 = some o) (hd : o.data = .dict es n)
    (hes : ∀ (i : Nat) (e : DictEntry), es[i]? = some e → ∃ (x : UInt8) (t' : Nat), e.key = Value.bytes #[x] t' ∧ NotSame p b env w x y) :
    Fits p w (.body b env) (10 * es.size + 1) (kp (dictFind 476 (.bytes #[y] t) h)) ⟨heap, gens, drawn, toks, os⟩ pos none ⟨heap, gens, drawn, toks, os⟩ pos := by
  have hlen : (placesWithHash es.size (fun i => es[i]?.map (·.hash)) h).length ≤ es.size := by
    unfold placesWithHash
    exact Nat.le_trans (List.length_filter_le _ _) (by simp)
  have hall : ((Value.bytes #[y] t) :: (placesWithHash es.size (fun i => es[i]?.map (·.hash)) h).filterMap (fun i => es[i]?.map (·.key))).all carriedByValue = true := by
    rw [List.all_cons]
    rw [Bool.and_eq_true]
    refine ⟨rfl, ?_⟩
    rw [List.all_eq_true]
    intro v hv
    obtain ⟨i, _, hi⟩ := List.mem_filterMap.mp hv
    cases he : es[i]? with
    | none => rw [he] at hi; cases hi
    | some e =>
      rw [he] at hi
      obtain ⟨x, t', hk, _⟩ := hes i e he
      simp only [Option.map_some, Option.some.injEq] at hi
      rw [← hi, hk]; rfl
  have hk : ∀ (m : Sem (Option Nat)), holding [Value.bytes #[y] t] m = m := fun _ => rfl
  unfold dictFind
  rw [hk]
  unfold dictEntries
  rw [kp_bind]
  refine (Fits.bind (n := 1) (n' := 10 * es.size) (a := es) (s' := ⟨heap, gens, drawn, toks, os⟩) (pos' := pos) ?_ ?_)
  · rw [kp_bind]
    refine (Fits.bind (n := 1) (n' := 0) (a := o) (Fits.load ho) ?_).more (by omega)
    rw [hd]
    exact Fits.pure _
  · dsimp only
    rw [if_pos hall]
    exact (walk_none p b env heap gens drawn toks os pos w y t h es n o ho hd hes _).more (Nat.mul_le_mul_left _ hlen)
theorem Fits.update {w : World} {c : Code} {q : Option Value} {f : Obj → Obj} {o : Obj} (ho : heap.get? 476 = some o) :
    Fits p w c 1 (updatePart 476 q f) ⟨heap, gens, drawn, toks, os⟩ pos () ⟨heap.update 476 f, gens, drawn, toks, os⟩ pos := fun K N r x => by
  show segRun treeTable p w 11 annV 1 (N + 1) _ ⟨Sem.update 476 q f fun o => K o, c, pos, B0⟩ = some r
  unfold segRun
  show (match stepOk 11 annV ⟨Sem.update 476 q f fun o => K o, c, pos, B0⟩ with | false => none | true => match (if (heap.get? 476).isSome then Step.go ⟨heap.update 476 f, gens, drawn, toks, os⟩ ⟨K (), c, pos, B0⟩ else _) with | .go s' t' => segRun treeTable p w 11 annV 1 N s' t' | .halt _ _ => none) = some r
  rw [ho]
  exact x
theorem set_fits (w : World) (y : UInt8) (t : Nat) (i : Int) (ti : Nat) (es : Array DictEntry) (n : Nat) (ho : heap.get? 476 = some { cls := .type "dict", data := .dict es n }) (hsz : es.size < 8)
    (hes : ∀ (i : Nat) (e : DictEntry), es[i]? = some e → ∃ (x : UInt8) (t' : Nat), e.key = Value.bytes #[x] t' ∧ NotSame p b env w x y) :
    Fits p w (.body b env) 100 (kp (dictSet 476 (.bytes #[y] t) (.int i ti))) ⟨heap, gens, drawn, toks, os⟩ pos ()
      ⟨heap.update 476 (Obj.mapDictKeys (·.push ⟨bHash w.params y, .bytes #[y] t, .int i ti⟩)), gens, drawn, toks + 1, os⟩ pos := by
  have hk : ∀ (m : Sem Unit), holding [Value.bytes #[y] t, .int i ti] m = m := fun _ => rfl
  unfold dictSet
  rw [hk, kp_bind]
  refine (Fits.bind (n := 6) (n' := 90) (hash_fits p b env heap gens drawn toks os pos w y t) ?_).more (by omega)
  unfold dictSetHashed
  rw [hk, kp_bind]
  refine (Fits.bind (n := 10 * es.size + 1) (n' := 4) (find_none p b env heap gens drawn (toks + 1) os pos w y t _ es n _ ho rfl hes) ?_).more (by omega)
  dsimp only
  rw [kp_bind]
  refine (Fits.bind (n := 1) (n' := 3) Fits.rule ?_)
  unfold updateDictKeys
  rw [kp_bind]
  refine (Fits.bind (n := 1) (n' := 2) (Fits.load ho) ?_)
  dsimp only
  rw [kp_bind]
  refine (Fits.bind (n := 1) (n' := 1) (Fits.update p gens drawn (toks + 1) os pos (heap := heap) ho) ?_)
  unfold lookBehind
  rw [kp_bind]
  refine (Fits.bind (n := 1) (n' := 0) (Fits.load (Heap.get?_update_self _ ho rfl)) ?_)
  have hp : (Obj.mapDictKeys (fun x => x.push ⟨bHash w.params y, .bytes #[y] t, .int i ti⟩) { cls := .type "dict", data := Data.dict es n }).data.pastItsLine = none := by
    show (if (es.push _).size > sizeLine + 1 then some "dict:memory" else none) = none
    rw [if_neg]
    rw [Array.size_push]
    have : sizeLine = 16777216 := rfl
    omega
  rw [hp]
  exact Fits.pure _
end
end Mine
end
section
theorem Mine.freshE4 : True := by
  run_tac (do PyProof.Rows.walkLines.set (0, {}); PyProof.Rows.walkHit.set {}; PyProof.Rows.walkTop.set false; PyProof.Rows.walkStart.set 0; PyProof.Rows.walkLate.set false)
  trivial
open PySem PySem.W PyProof.Rows
set_option Elab.async false
set_option maxRecDepth 100000
set_option maxHeartbeats 4000000
namespace Mine
noncomputable section
noncomputable def escSts : List Stmt := (PySem.Challenge.pw_ae5031_04.main.body.drop 47).take 1
noncomputable def escKeys : List (Option Expr) := match escSts with | [.Assign _ (.Dict ks _ _) _] => ks | _ => []
noncomputable def escVals : List Expr := match escSts with | [.Assign _ (.Dict _ vs _) _] => vs | _ => []
noncomputable def escPos : Pos := match escSts with | [.Assign _ (.Dict _ _ p) _] => p | _ => default
noncomputable def escAt : Pos := match escSts with | [.Assign _ _ p] => p | _ => default
noncomputable def escNamePos : Pos := match escSts with | [.Assign [.Name _ p] _ _] => p | _ => default
noncomputable def escName : Str := match escSts with | [.Assign [.Name n _] _ _] => n | _ => default
theorem escSts_is : escSts = [.Assign [.Name escName escNamePos] (.Dict escKeys escVals escPos) escAt] := by kernel_rfl
noncomputable abbrev theEnv : Env := Mine.topA.env_1
noncomputable def escPairs : List (Sem Value × Sem Value) := ((evalEachOpt escKeys theEnv).zip ((evalEach escVals theEnv).map fun v => do let x ← v; standAt escPos; pure x)).map fun x => (x.1.getD (pure .none), x.2)
theorem display_is : dictDisplay ((evalEachOpt escKeys theEnv).zip ((evalEach escVals theEnv).map fun v => do let x ← v; standAt escPos; pure x)) =
    ((subDict escPairs >>= fun d => pure (some d)) >>= fun r => match r with | some d => pure (.ref d) | none => newDict) := by
  kernel_rfl
noncomputable def escVs : List (Value × Value) := [(.bytes #[98] 829, .int 8 830), (.bytes #[116] 831, .int 9 832), (.bytes #[110] 833, .int 10 834), (.bytes #[102] 835, .int 12 836), (.bytes #[114] 837, .int 13 838), (.bytes #[40] 839, .int 40 840), (.bytes #[41] 841, .int 41 842), (.bytes #[92] 843, .int 92 844)]
noncomputable def escPosV : Pos := escPos
theorem pairs_run (p : Program) (w : World) (b : List Stmt) (heap : Heap) (gens : Array GenState) (drawn : Drawn) (os : OsState) (pos : Pos) (K : List (Value × Value) → Sem Fin) (N : Nat) :
    segRun treeTable p w 11 annV 1 (N + 24) ⟨heap, gens, drawn, 829, os⟩ ⟨(kp (evalPairs escPairs)).wrap K deadEnd id id, .body b theEnv, pos, B0⟩ =
    segRun treeTable p w 11 annV 1 N ⟨heap, gens, drawn, 845, os⟩ ⟨K escVs, .body b theEnv, escPosV, B0⟩ := by
  kernel_rfl
theorem pairs_fits (p : Program) (w : World) (b : List Stmt) (heap : Heap) (gens : Array GenState) (drawn : Drawn) (os : OsState) (pos : Pos) :
    Fits p w (.body b theEnv) 24 (kp (evalPairs escPairs)) ⟨heap, gens, drawn, 829, os⟩ pos escVs ⟨heap, gens, drawn, 845, os⟩ escPosV := fun K N r q => by
  rw [pairs_run]; exact q
noncomputable def escR (d : Addr) : Sem Flow := standAt escNamePos >>= fun _ => bindName theEnv escName (.ref d) >>= fun _ => pure .next
noncomputable def escM : Sem Addr := standAt escAt >>= fun _ => standAt escPos >>= fun _ => subDict escPairs
theorem execs_is : execs escSts theEnv = (escM >>= escR) := by
  rw [escSts_is]
  show (exec (.Assign [.Name escName escNamePos] (.Dict escKeys escVals escPos) escAt) theEnv >>= fun f => match f with | .next => execs [] theEnv | f => pure f) = _
  rw [exec_Assign_Name _ _ _ _ _ (by kernel_rfl)]
  have : eval (.Dict escKeys escVals escPos) theEnv = (standAt escPos >>= fun _ => dictDisplay ((evalEachOpt escKeys theEnv).zip ((evalEach escVals theEnv).map fun v => do let x ← v; standAt escPos; pure x))) := rfl
  rw [this, display_is]
  unfold escM escR
  simp only [bind_assoc, pure_bind]
  rfl
theorem tail_run (p : Program) (w : World) (b : List Stmt) (os : OsState) :
    segRunT treeTable p w 11 annV 1 20 ⟨(Mine.topA.tree_557 w.params).ins 476 (o476 w.params), 477, {}, #[], {}, 853, os⟩ ⟨(escR 476).wrap doneF deadEnd id id, .body b theEnv, escPos, B0⟩ =
    some (.next, ⟨((Mine.topA.tree_557 w.params).ins 476 (o476 w.params)).set 3 (fun _ => o3' w.params), 477, {}, #[], {}, 854, os⟩, .body b theEnv, posK2) := by
  kernel_rfl
end
end Mine
end
section
theorem Mine.freshE6 : True := by
  run_tac (do PyProof.Rows.walkLines.set (0, {}); PyProof.Rows.walkHit.set {}; PyProof.Rows.walkTop.set false; PyProof.Rows.walkStart.set 0; PyProof.Rows.walkLate.set false)
  trivial
open PySem PySem.W PyProof.Rows
set_option Elab.async false
set_option maxRecDepth 100000
set_option maxHeartbeats 4000000
namespace Mine
noncomputable section
noncomputable abbrev NaEq (p : Program) (b : List Stmt) (env : Env) (x y : UInt8) (t t' : Nat) (heap : Heap) (gens : Array GenState) (drawn : Drawn) (toks : Nat) (os : OsState) (pos : Pos) (K : Bool → Sem Fin) (N : Nat) (w : World) : Prop :=
  segRun treeTable p w 11 annV 1 (N + 4) ⟨heap, gens, drawn, toks, os⟩ ⟨(kp (eqBool (.bytes #[x] t) (.bytes #[y] t'))).wrap K deadEnd id id, .body b env, pos, B0⟩ =
    segRun treeTable p w 11 annV 1 N ⟨heap, gens, drawn, toks, os⟩ ⟨K false, .body b env, pos, B0⟩
theorem na_of {p : Program} {b : List Stmt} {env : Env} {w : World} {x y : UInt8} (h : ∀ (r : Bool) t t' heap gens drawn toks os pos K N w, NaEq p b env x y t t' heap gens drawn toks os pos K N (World.withFollow w "special-get-raises" r)) : NotSame p b env w x y :=
  fun t t' heap gens drawn toks os pos K N r q => by
    have e := byRow2 "special-get-raises" (P := NaEq p b env x y t t' heap gens drawn toks os pos K N) (fun w => h false t t' heap gens drawn toks os pos K N w) (fun w => h true t t' heap gens drawn toks os pos K N w) w
    unfold NaEq at e
    rw [e]; exact q
theorem na_98_116 (p : Program) (b : List Stmt) (env : Env) (w : World) : NotSame p b env w 98 116 := na_of fun r t t' heap gens drawn toks os pos K N w => by cases r <;> kernel_rfl
theorem na_98_110 (p : Program) (b : List Stmt) (env : Env) (w : World) : NotSame p b env w 98 110 := na_of fun r t t' heap gens drawn toks os pos K N w => by cases r <;> kernel_rfl
theorem na_116_110 (p : Program) (b : List Stmt) (env : Env) (w : World) : NotSame p b env w 116 110 := na_of fun r t t' heap gens drawn toks os pos K N w => by cases r <;> kernel_rfl
theorem na_98_102 (p : Program) (b : List Stmt) (env : Env) (w : World) : NotSame p b env w 98 102 := na_of fun r t t' heap gens drawn toks os pos K N w => by cases r <;> kernel_rfl
theorem na_116_102 (p : Program) (b : List Stmt) (env : Env) (w : World) : NotSame p b env w 116 102 := na_of fun r t t' heap gens drawn toks os pos K N w => by cases r <;> kernel_rfl
theorem na_110_102 (p : Program) (b : List Stmt) (env : Env) (w : World) : NotSame p b env w 110 102 := na_of fun r t t' heap gens drawn toks os pos K N w => by cases r <;> kernel_rfl
theorem na_98_114 (p : Program) (b : List Stmt) (env : Env) (w : World) : NotSame p b env w 98 114 := na_of fun r t t' heap gens drawn toks os pos K N w => by cases r <;> kernel_rfl
theorem na_116_114 (p : Program) (b : List Stmt) (env : Env) (w : World) : NotSame p b env w 116 114 := na_of fun r t t' heap gens drawn toks os pos K N w => by cases r <;> kernel_rfl
theorem na_110_114 (p : Program) (b : List Stmt) (env : Env) (w : World) : NotSame p b env w 110 114 := na_of fun r t t' heap gens drawn toks os pos K N w => by cases r <;> kernel_rfl
theorem na_102_114 (p : Program) (b : List Stmt) (env : Env) (w : World) : NotSame p b env w 102 114 := na_of fun r t t' heap gens drawn toks os pos K N w => by cases r <;> kernel_rfl
theorem na_98_40 (p : Program) (b : List Stmt) (env : Env) (w : World) : NotSame p b env w 98 40 := na_of fun r t t' heap gens drawn toks os pos K N w => by cases r <;> kernel_rfl
theorem na_116_40 (p : Program) (b : List Stmt) (env : Env) (w : World) : NotSame p b env w 116 40 := na_of fun r t t' heap gens drawn toks os pos K N w => by cases r <;> kernel_rfl
theorem na_110_40 (p : Program) (b : List Stmt) (env : Env) (w : World) : NotSame p b env w 110 40 := na_of fun r t t' heap gens drawn toks os pos K N w => by cases r <;> kernel_rfl
theorem na_102_40 (p : Program) (b : List Stmt) (env : Env) (w : World) : NotSame p b env w 102 40 := na_of fun r t t' heap gens drawn toks os pos K N w => by cases r <;> kernel_rfl
theorem na_114_40 (p : Program) (b : List Stmt) (env : Env) (w : World) : NotSame p b env w 114 40 := na_of fun r t t' heap gens drawn toks os pos K N w => by cases r <;> kernel_rfl
theorem na_98_41 (p : Program) (b : List Stmt) (env : Env) (w : World) : NotSame p b env w 98 41 := na_of fun r t t' heap gens drawn toks os pos K N w => by cases r <;> kernel_rfl
theorem na_116_41 (p : Program) (b : List Stmt) (env : Env) (w : World) : NotSame p b env w 116 41 := na_of fun r t t' heap gens drawn toks os pos K N w => by cases r <;> kernel_rfl
theorem na_110_41 (p : Program) (b : List Stmt) (env : Env) (w : World) : NotSame p b env w 110 41 := na_of fun r t t' heap gens drawn toks os pos K N w => by cases r <;> kernel_rfl
theorem na_102_41 (p : Program) (b : List Stmt) (env : Env) (w : World) : NotSame p b env w 102 41 := na_of fun r t t' heap gens drawn toks os pos K N w => by cases r <;> kernel_rfl
theorem na_114_41 (p : Program) (b : List Stmt) (env : Env) (w : World) : NotSame p b env w 114 41 := na_of fun r t t' heap gens drawn toks os pos K N w => by cases r <;> kernel_rfl
theorem na_40_41 (p : Program) (b : List Stmt) (env : Env) (w : World) : NotSame p b env w 40 41 := na_of fun r t t' heap gens drawn toks os pos K N w => by cases r <;> kernel_rfl
theorem na_98_92 (p : Program) (b : List Stmt) (env : Env) (w : World) : NotSame p b env w 98 92 := na_of fun r t t' heap gens drawn toks os pos K N w => by cases r <;> kernel_rfl
theorem na_116_92 (p : Program) (b : List Stmt) (env : Env) (w : World) : NotSame p b env w 116 92 := na_of fun r t t' heap gens drawn toks os pos K N w => by cases r <;> kernel_rfl
theorem na_110_92 (p : Program) (b : List Stmt) (env : Env) (w : World) : NotSame p b env w 110 92 := na_of fun r t t' heap gens drawn toks os pos K N w => by cases r <;> kernel_rfl
theorem na_102_92 (p : Program) (b : List Stmt) (env : Env) (w : World) : NotSame p b env w 102 92 := na_of fun r t t' heap gens drawn toks os pos K N w => by cases r <;> kernel_rfl
theorem na_114_92 (p : Program) (b : List Stmt) (env : Env) (w : World) : NotSame p b env w 114 92 := na_of fun r t t' heap gens drawn toks os pos K N w => by cases r <;> kernel_rfl
theorem na_40_92 (p : Program) (b : List Stmt) (env : Env) (w : World) : NotSame p b env w 40 92 := na_of fun r t t' heap gens drawn toks os pos K N w => by cases r <;> kernel_rfl
theorem na_41_92 (p : Program) (b : List Stmt) (env : Env) (w : World) : NotSame p b env w 41 92 := na_of fun r t t' heap gens drawn toks os pos K N w => by cases r <;> kernel_rfl
noncomputable def G (heap : Heap) (es : Array DictEntry) (n : Nat) : Heap := heap.push { cls := .type "dict", data := .dict es n }
theorem G_get {heap : Heap} (hs : heap.objs.size = 476) (es : Array DictEntry) (n : Nat) : (G heap es n).get? 476 = some { cls := .type "dict", data := .dict es n } := by
  unfold G
  rw [← hs]
  exact Heap.get?_push_size _ rfl
theorem G_put {heap : Heap} (hs : heap.objs.size = 476) (es : Array DictEntry) (n : Nat) (e : DictEntry) : (G heap es n).update 476 (Obj.mapDictKeys (·.push e)) = G heap (es.push e) (n + 1) := by
  obtain ⟨objs, life⟩ := heap
  dsimp only at hs
  unfold G
  show Heap.mk ((objs.push _).modify 476 _) life = Heap.mk (objs.push _) life
  congr 1
  apply Array.ext_getElem?
  intro i
  rw [Array.getElem?_modify, Array.getElem?_push, Array.getElem?_push, ← hs]
  by_cases q : i = objs.size
  · subst q; simp only [if_true, Option.map_some]; rfl
  · rw [if_neg (Ne.symm q), if_neg q, if_neg q]
section
variable (p : Program) (b : List Stmt) (env : Env) (heap : Heap) (gens : Array GenState) (drawn : Drawn) (toks : Nat) (os : OsState) (pos : Pos)
theorem put_fits (hs : heap.objs.size = 476) (w : World) (y : UInt8) (t : Nat) (i : Int) (ti : Nat) (es : Array DictEntry) (n : Nat) (hsz : es.size < 8)
    (hes : ∀ (i : Nat) (e : DictEntry), es[i]? = some e → ∃ (x : UInt8) (t' : Nat), e.key = Value.bytes #[x] t' ∧ NotSame p b env w x y) :
    Fits p w (.body b env) 100 (kp (do dictSet 476 (.bytes #[y] t) (.int i ti); pure (ForInStep.yield PUnit.unit))) ⟨G heap es n, gens, drawn, toks, os⟩ pos (ForInStep.yield PUnit.unit)
      ⟨G heap (es.push ⟨bHash w.params y, .bytes #[y] t, .int i ti⟩) (n + 1), gens, drawn, toks + 1, os⟩ pos := by
  rw [kp_bind]
  have := set_fits p b env (G heap es n) gens drawn toks os pos w y t i ti es n (G_get hs es n) hsz hes
  rw [G_put hs] at this
  exact Fits.more (n := 0 + 100) (Fits.bind (n := 100) (n' := 0) (a := ()) this (by exact Fits.pure _)) (by omega)
end
theorem keys_nil {p : Program} {b : List Stmt} {env : Env} {w : World} {y : UInt8} : ∀ (i : Nat) (e : DictEntry), (#[] : Array DictEntry)[i]? = some e → ∃ (x : UInt8) (t' : Nat), e.key = Value.bytes #[x] t' ∧ NotSame p b env w x y := fun i e h => by simp at h
theorem keys_push {p : Program} {b : List Stmt} {env : Env} {w : World} {y x : UInt8} {es : Array DictEntry} {hh : Int} {t : Nat} {v : Value} (h : ∀ (i : Nat) (e : DictEntry), es[i]? = some e → ∃ (x : UInt8) (t' : Nat), e.key = Value.bytes #[x] t' ∧ NotSame p b env w x y)
    (na : NotSame p b env w x y) : ∀ (i : Nat) (e : DictEntry), (es.push ⟨hh, .bytes #[x] t, v⟩)[i]? = some e → ∃ (x : UInt8) (t' : Nat), e.key = Value.bytes #[x] t' ∧ NotSame p b env w x y := fun i e q => by
  rw [Array.getElem?_push] at q
  split at q
  · cases q; exact ⟨x, t, rfl, na⟩
  · exact h i e q
theorem sets_fits (p : Program) (b : List Stmt) (env : Env) (heap : Heap) (gens : Array GenState) (drawn : Drawn) (os : OsState) (pos : Pos) (hs : heap.objs.size = 476) (w : World) :
    Fits p w (.body b env) 800 (kp (forIn escVs PUnit.unit fun x (_ : PUnit) => do dictSet 476 x.1 x.2; pure (ForInStep.yield PUnit.unit))) ⟨G heap #[] 0, gens, drawn, 845, os⟩ pos PUnit.unit
      ⟨G heap (escEnts w.params).toArray 8, gens, drawn, 853, os⟩ pos := by
  unfold escVs
  rw [List.forIn_cons, kp_bind]
  refine Fits.bind (n := 100) (n' := 700) (put_fits p b env heap gens drawn 845 os pos hs w 98 829 8 830 _ 0 (by first | decide | (simp only [Array.size_push]; decide)) keys_nil) ?_
  dsimp only
  rw [List.forIn_cons, kp_bind]
  refine Fits.bind (n := 100) (n' := 600) (put_fits p b env heap gens drawn 846 os pos hs w 116 831 9 832 _ 1 (by first | decide | (simp only [Array.size_push]; decide)) (keys_push keys_nil (na_98_116 p b env w))) ?_
  dsimp only
  rw [List.forIn_cons, kp_bind]
  refine Fits.bind (n := 100) (n' := 500) (put_fits p b env heap gens drawn 847 os pos hs w 110 833 10 834 _ 2 (by first | decide | (simp only [Array.size_push]; decide)) (keys_push (keys_push keys_nil (na_98_110 p b env w)) (na_116_110 p b env w))) ?_
  dsimp only
  rw [List.forIn_cons, kp_bind]
  refine Fits.bind (n := 100) (n' := 400) (put_fits p b env heap gens drawn 848 os pos hs w 102 835 12 836 _ 3 (by first | decide | (simp only [Array.size_push]; decide)) (keys_push (keys_push (keys_push keys_nil (na_98_102 p b env w)) (na_116_102 p b env w)) (na_110_102 p b env w))) ?_
  dsimp only
  rw [List.forIn_cons, kp_bind]
  refine Fits.bind (n := 100) (n' := 300) (put_fits p b env heap gens drawn 849 os pos hs w 114 837 13 838 _ 4 (by first | decide | (simp only [Array.size_push]; decide)) (keys_push (keys_push (keys_push (keys_push keys_nil (na_98_114 p b env w)) (na_116_114 p b env w)) (na_110_114 p b env w)) (na_102_114 p b env w))) ?_
  dsimp only
  rw [List.forIn_cons, kp_bind]
  refine Fits.bind (n := 100) (n' := 200) (put_fits p b env heap gens drawn 850 os pos hs w 40 839 40 840 _ 5 (by first | decide | (simp only [Array.size_push]; decide)) (keys_push (keys_push (keys_push (keys_push (keys_push keys_nil (na_98_40 p b env w)) (na_116_40 p b env w)) (na_110_40 p b env w)) (na_102_40 p b env w)) (na_114_40 p b env w))) ?_
  dsimp only
  rw [List.forIn_cons, kp_bind]
  refine Fits.bind (n := 100) (n' := 100) (put_fits p b env heap gens drawn 851 os pos hs w 41 841 41 842 _ 6 (by first | decide | (simp only [Array.size_push]; decide)) (keys_push (keys_push (keys_push (keys_push (keys_push (keys_push keys_nil (na_98_41 p b env w)) (na_116_41 p b env w)) (na_110_41 p b env w)) (na_102_41 p b env w)) (na_114_41 p b env w)) (na_40_41 p b env w))) ?_
  dsimp only
  rw [List.forIn_cons, kp_bind]
  refine Fits.bind (n := 100) (n' := 0) (put_fits p b env heap gens drawn 852 os pos hs w 92 843 92 844 _ 7 (by first | decide | (simp only [Array.size_push]; decide)) (keys_push (keys_push (keys_push (keys_push (keys_push (keys_push (keys_push keys_nil (na_98_92 p b env w)) (na_116_92 p b env w)) (na_110_92 p b env w)) (na_102_92 p b env w)) (na_114_92 p b env w)) (na_40_92 p b env w)) (na_41_92 p b env w))) ?_
  dsimp only
  rw [List.forIn_nil]
  exact Fits.pure _
end
end Mine
end
section
theorem Mine.freshE7 : True := by
  run_tac (do PyProof.Rows.walkLines.set (0, {}); PyProof.Rows.walkHit.set {}; PyProof.Rows.walkTop.set false; PyProof.Rows.walkStart.set 0; PyProof.Rows.walkLate.set false)
  trivial
open PySem PySem.W PyProof.Rows
set_option Elab.async false
set_option maxRecDepth 100000
set_option maxHeartbeats 4000000
namespace Mine
noncomputable section
theorem G_abs (T : BT) (P : Params) (g : ((T.ins 476 (o476 P)).get 476).isSome = true) : G (absHeap T 476 {}) (escEnts P).toArray 8 = absHeap (T.ins 476 (o476 P)) 477 {} := (absHeap_ins g).symm
theorem T_get (P : Params) : (((Mine.topA.tree_557 P).ins 476 (o476 P)).get 476).isSome = true := by kernel_rfl
theorem pairs_8 : escPairs.length = 8 := by kernel_rfl
theorem pairs_few : escPairs.length ≤ 15 := by rw [pairs_8]; decide
theorem sub_fits (p : Program) (b : List Stmt) (heap : Heap) (gens : Array GenState) (drawn : Drawn) (os : OsState) (pos : Pos) (hs : heap.objs.size = 476) (w : World) :
    Fits p w (.body b theEnv) 825 (subDict escPairs) ⟨heap, gens, drawn, 829, os⟩ pos 476 ⟨G heap (escEnts w.params).toArray 8, gens, drawn, 853, os⟩ escPosV := by
  unfold subDict
  have al : Fits p w (.body b theEnv) 1 (alloc { cls := .type "dict", data := .dict #[] }) ⟨heap, gens, drawn, 829, os⟩ pos 476 ⟨G heap #[] 0, gens, drawn, 829, os⟩ pos := fun K N r q => by
    have : segRun treeTable p w 11 annV 1 (N + 1) ⟨heap, gens, drawn, 829, os⟩ ⟨(alloc { cls := .type "dict", data := .dict #[] }).wrap K deadEnd id id, .body b theEnv, pos, B0⟩ =
      segRun treeTable p w 11 annV 1 N ⟨heap.push { cls := .type "dict", data := .dict #[] }, gens, drawn, 829, os⟩ ⟨K heap.objs.size, .body b theEnv, pos, B0⟩ := rfl
    rw [this, hs]
    exact q
  refine (Fits.bind (n := 1) (n' := 824) al ?_)
  rw [if_pos pairs_few]
  have e : ∀ {α : Type} (m : Sem α), holding [Value.ref 476] m = kp m := fun _ => rfl
  simp only [e]
  refine (Fits.bind (n := 824) (n' := 0) (a := PUnit.unit) ?_ (Fits.pure _))
  rw [kp_bind]
  refine (Fits.bind (n := 24) (n' := 800) (pairs_fits p w b _ gens drawn os pos) ?_)
  have h2 : ∀ m : Sem PUnit, holding (escVs.flatMap fun x => [x.1, x.2]) m = m := fun _ => rfl
  rw [h2, kp_bind]
  refine Fits.more (n := 0 + 800) (Fits.bind (n := 800) (n' := 0) (a := PUnit.unit) (sets_fits p b theEnv heap gens drawn os escPosV hs w) (by exact Fits.pure _)) (by omega)
noncomputable abbrev S47 (w : World) (os : OsState) : SharedT := SharedT.mk (Mine.topA.tree_557 w.params) 476 {} #[] {} 829 os
noncomputable abbrev S48 (w : World) (os : OsState) : SharedT := SharedT.mk (tree48 w.params) 477 {} #[] {} 854 os
theorem esc_lemma (p : Program) (b : List Stmt) (w : World) (os : OsState) :
    segRun treeTable p w 11 annV 1 1000 (S47 w os).abs (piecesOf escSts theEnv (.body b theEnv) posK B0) = some (.next, (S48 w os).abs, .body b theEnv, posK2) := by
  have h1 := segRun_of (tail_run p w b os)
  have hs : (absHeap (Mine.topA.tree_557 w.params) 476 {}).objs.size = 476 := absHeap_size ..
  have hM : Fits p w (.body b theEnv) 827 escM ⟨absHeap (Mine.topA.tree_557 w.params) 476 {}, #[], {}, 829, os⟩ posK 476 ⟨absHeap ((Mine.topA.tree_557 w.params).ins 476 (o476 w.params)) 477 {}, #[], {}, 853, os⟩ escPos := by
    unfold escM
    refine Fits.more (n := 825 + 1 + 1) (Fits.bind (n := 1) (n' := 825 + 1) Fits.at (Fits.bind (n := 1) (n' := 825) Fits.at ?_)) (by omega)
    have := sub_fits p b (absHeap (Mine.topA.tree_557 w.params) 476 {}) #[] {} os escPos hs w
    rw [G_abs _ _ (T_get w.params)] at this
    exact this
  have h2 := hM (fun d => (escR d).wrap doneF deadEnd id id) 20 _ h1
  have h3 : (execs escSts theEnv).wrap doneF deadEnd id id = escM.wrap (fun d => (escR d).wrap doneF deadEnd id id) deadEnd id id := by
    rw [execs_is, Sem.bind_eq_wrap', Sem.wrap_wrap]; rfl
  have h4 := segRun_more p w 153 _ _ _ _ h2
  show segRun treeTable p w 11 annV 1 1000 ⟨absHeap (Mine.topA.tree_557 w.params) 476 {}, #[], {}, 829, os⟩ ⟨(execs escSts theEnv).wrap doneF deadEnd id id, .body b theEnv, posK, B0⟩ = _
  rw [h3]
  exact h4
end
end Mine
end
section
theorem Mine.freshG3 : True := by
  run_tac (do PyProof.Rows.walkLines.set (0, {}); PyProof.Rows.walkHit.set {}; PyProof.Rows.walkTop.set false; PyProof.Rows.walkStart.set 0; PyProof.Rows.walkLate.set false)
  trivial
open PySem PySem.W
set_option Elab.async false
set_option maxRecDepth 100000
set_option maxHeartbeats 0
namespace Mine
open Lean Lean.Elab Lean.Elab.Tactic in
theorem topB : True := by
  run_tac do
    let some e := (topsExt.getState (← getEnv))[0]? | throwError "no top"
    let objs := (e.sK.objs.set! 3 `Mine.o3').push `Mine.o476
    Term.withDeclName `Mine.topB (genTop `Mine.topB (mkConst ``PySem.Challenge.pw_ae5031_04) 48 85 (some (objs, `Mine.tree48)))
  trivial
end Mine
end
section
theorem Mine.freshG6 : True := by
  run_tac (do PyProof.Rows.walkLines.set (0, {}); PyProof.Rows.walkHit.set {}; PyProof.Rows.walkTop.set false; PyProof.Rows.walkStart.set 0; PyProof.Rows.walkLate.set false)
  trivial
open PySem PySem.W PyProof.Rows
set_option Elab.async false
set_option maxRecDepth 100000
set_option maxHeartbeats 0
namespace Mine
open Lean Lean.Meta Lean.Elab Lean.Elab.Tactic
def joinTop : TermElabM Unit := do
  let es := topsExt.getState (← getEnv)
  if es.size < 2 then return ()
  let some a := es[0]? | throwError "no first run"
  let some c := es[1]? | throwError "no second run"
  let bE ← mkAppM ``behindTheImports #[mkConst ``PySem.Challenge.pw_ae5031_04]
  let some cells ← cellsD? bE | throwError "no cells"
  let stL := mkApp (mkConst ``List [0]) (mkConst ``Stmt)
  let (ty, pf) ← withLocalDeclD `p (mkConst ``Program) fun p => withLocalDeclD `b stL fun b => withLocalDeclD `w (mkConst ``World) fun w => withLocalDeclD `os (mkConst ``OsState) fun os =>
    withLocalDeclD `rest stL fun rest => withLocalDeclD `N (mkConst ``Nat) fun N => withLocalDeclD `r (mkConst ``PySem.Shared) fun r => do
      let ch2 := mkAppN (mkConst c.chain) #[p, b, w, os, rest, N, r]
      let .forallE _ hTy _ _ ← inferType ch2 | throwError "no arrow"
      withLocalDeclD `h hTy fun h => do
        let mut N1 := N
        let mut r1 := rest
        for n in c.steps.toList.reverse do N1 := mkApp2 (mkConst ``Nat.add) (mkRawNatLit n) N1
        for n in c.groups.toList.reverse do r1 ← mkAppM ``HAppend.hAppend #[mkConst n, r1]
        let k1 := mkApp ch2 h
        let k2 ← mkAppM ``piece_app #[mkAppN (mkConst `Mine.esc_lemma) #[p, b, w, os], k1]
        let N2 := mkApp2 (mkConst ``Nat.add) (mkRawNatLit 1000) N1
        let r2 ← mkAppM ``HAppend.hAppend #[mkConst `Mine.escSts, r1]
        let k3 := mkAppN (mkConst a.chain) #[p, b, w, os, r2, N2, r, k2]
        pure (← mkForallFVars #[p, b, w, os, rest, N, r, h] (← inferType k3), ← mkLambdaFVars #[p, b, w, os, rest, N, r, h] k3)
  unless (← getEnv).contains `Mine.wholeTop do addDecl (.thmDecl { name := `Mine.wholeTop, levelParams := [], type := ty, value := pf })
  let e : TopEntry := { c with cells := cells.toArray, groups := a.groups ++ #[`Mine.escSts] ++ c.groups, steps := a.steps ++ #[1000] ++ c.steps, chain := `Mine.wholeTop, posB := a.posB, sB := a.sB }
  modifyEnv fun env => topsExt.modifyState env fun _ => #[e]
def valRefs : Value → List Addr
  | .ref a => [a]
  | _ => []
def nsVal (h : Heap) (ns : Addr) (n : String) : List Addr := match h.get? ns with
  | some ⟨_, _, .dict es _, _⟩ => es.toList.flatMap fun e => match e.key with | .str x _ => if x.toString == n then valRefs e.val else [] | _ => []
  | _ => []
def fnRefs (h : Heap) (f : Addr) : List Addr := match h.get? f with
  | some o => f :: (refsOf o).flatMap fun a => a :: match h.get? a with
    | some o' => if o'.cls == .type "code" then refsOf o' else []
    | none => []
  | none => []
def clsRefs (h : Heap) (c : Addr) (ms : List String) : List Addr := match h.get? c with
  | some ⟨_, d, .cls cd, _⟩ => c :: cd.ns :: d.toList ++ cd.mro.flatMap (fun v => valRefs v) ++ (ms.flatMap fun m => (nsVal h cd.ns m).flatMap fun f => fnRefs h f ++ (match h.get? f with | some o => if o.cls == .type "staticmethod" then (refsOf o).flatMap (fnRefs h) else [] | none => []))
  | _ => []
def chosen (h : Heap) : List Addr :=
  let fns : List String := ["law", "_law_begin", "_law_ended", "_law_asked", "_index", "_whence"]
  let cls : List (String × List String) := [("PSStackParser", ["__init__", "reset", "seek", "push", "pop", "popall", "add_results", "start_type", "end_type", "nextobject"]),
    ("PSBaseParser", ["__init__", "seek", "fillbuf", "_parse_main", "nexttoken"]), ("PDFParser", ["__init__"]), ("PDFStreamParser", ["__init__"]),
    ("BytesIO", ["__init__", "_BytesIO__check", "seek", "tell", "read"]), ("BufferedIOBase", []), ("IOBase", ["__new__"]), ("Signs", ["search"]),
    ("PSException", []), ("PSEOF", []), ("PSTypeError", []), ("StringIO", [])]
  let main := (fns.flatMap fun f => (nsVal h mainNs f).flatMap (fnRefs h)) ++ (cls.flatMap fun (c, ms) => (nsVal h mainNs c).flatMap fun a => clsRefs h a ms)
  let sg := (nsVal h mainNs "NONSPC").flatMap fun a => a :: match h.get? a with | some o => o.dict.toList | none => []
  let all := mainNs :: cStatics :: main ++ sg
  let more := all.flatMap fun a => match h.get? a with | some ⟨_, _, .cls cd, _⟩ => [cd.ns] | _ => []
  ((all ++ more).eraseDups.mergeSort (· ≤ ·)).filter fun a => a != builtinsNs && a != sysModules && (h.get? a).any fun o => o.cls != .none || a == cStatics || a == mainNs
def genK : TermElabM Unit := do
  let some e := (topsExt.getState (← getEnv))[0]? | throwError "no top"
  let (t, t') ← match ← traceTop PySem.Challenge.pw_ae5031_04 40000 1, ← traceTop PySem.Challenge.pw_ae5031_04 40000 2 with
    | .ok t, .ok t' => pure (t, t')
    | .error m, _ | _, .error m => throwError "{m}"
  let h := t.fin.s.heap
  let _ := t'
  let as := chosen h
  let pr := mkApp2 (mkConst ``Prod [0, 0]) (mkConst ``Nat) (mkConst ``Obj)
  let mk (a : Nat) (o : Lean.Expr) := mkApp4 (mkConst ``Prod.mk [0, 0]) (mkConst ``Nat) (mkConst ``Obj) (mkRawNatLit a) o
  let P := mkConst ``Params
  let mut eqs : Array (Nat × Lean.Expr) := #[]
  for a in as do
    let some o := h.get? a | throwError "no object"
    let some n := e.sK.objs[a]? | throwError "no constant"
    let (ty, pf) ← withLocalDeclD `P P fun q => do
      let slow := objE q o
      let ds ← Fast.twinsIn slow
      let (sw, pf) ← Fast.turned slow ds
      let c := mkApp (mkConst n) q
      let _ := sw
      pure (← mkForallFVars #[q] (← mkEq slow c), ← mkLambdaFVars #[q] (← mkExpectedTypeHint pf (← mkEq slow c)))
    eqs := eqs.push (a, ← lem ty pf)
  let vs ← withLocalDeclD `P P fun q => do mkLambdaFVars #[q] (listE pr (as.map fun a => mk a (objE q ((h.get? a).getD default))))
  let vf ← withLocalDeclD `P P fun q => do mkLambdaFVars #[q] (listE pr (as.map fun a => mk a (mkApp (mkConst (e.sK.objs[a]!)) q)))
  let tyK ← mkArrow P (mkConst ``Frag)
  addDecl (.defnDecl { name := `Mine.K, levelParams := [], type := tyK, value := vs, hints := .regular 1, safety := .safe })
  addDecl (.defnDecl { name := `Mine.KF, levelParams := [], type := tyK, value := vf, hints := .regular 1, safety := .safe })
  addDecl (.defnDecl { name := `Mine.KA, levelParams := [], type := mkApp (mkConst ``List [0]) (mkConst ``Nat), value := listE (mkConst ``Nat) (as.map mkRawNatLit), hints := .regular 1, safety := .safe })
  let (ty, pf) ← withLocalDeclD `P P fun q => do
    let mut k ← mkEqRefl (mkApp (mkConst ``List.nil [0]) pr)
    for (a, l) in eqs.toList.reverse do
      let hd ← mkCongrArg (mkApp3 (mkConst ``Prod.mk [0, 0]) (mkConst ``Nat) (mkConst ``Obj) (mkRawNatLit a)) (mkApp l q)
      k ← mkCongr (← mkCongrArg (mkApp (mkConst ``List.cons [0]) pr) hd) k
    let want ← mkEq (mkApp (mkConst `Mine.K) q) (mkApp (mkConst `Mine.KF) q)
    pure (← mkForallFVars #[q] want, ← mkLambdaFVars #[q] (← mkExpectedTypeHint k want))
  addDecl (.thmDecl { name := `Mine.K_is, levelParams := [], type := ty, value := pf })
  say s!"K {as.length}: {as}"
theorem joined : True := by
  run_tac joinTop
  trivial
theorem written : True := by
  run_tac (do let t0 ← IO.monoMsNow; Term.withDeclName `Mine.written genK; let t1 ← IO.monoMsNow; say s!"genK {t1 - t0}")
  trivial
end Mine
end
section
theorem Mine.freshG7 : True := by
  run_tac (do PyProof.Rows.walkLines.set (0, {}); PyProof.Rows.walkHit.set {}; PyProof.Rows.walkTop.set false; PyProof.Rows.walkStart.set 0; PyProof.Rows.walkLate.set false)
  trivial
open PySem PySem.W PyProof.Rows
set_option Elab.async false
set_option maxRecDepth 100000
set_option maxHeartbeats 0
namespace Mine
theorem KA_is (P : Params) : KA = (K P).map (·.1) := by kernel_rfl
end Mine
end
section
theorem Mine.freshS0 : True := by
  run_tac (do PyProof.Rows.walkLines.set (0, {}); PyProof.Rows.walkHit.set {}; PyProof.Rows.walkTop.set false; PyProof.Rows.walkStart.set 0; PyProof.Rows.walkLate.set false)
  trivial
open Lean Elab Meta Tactic PySem PySem.W
set_option Elab.async false
namespace Mine
def findDef (e : Lean.Expr) (nm : String) : Option Lean.Expr := e.find? fun x => x.isAppOf ``PySem.Stmt.FunctionDef && (match x.getAppArgs[0]? with | some n => (match n with | .app _ (.lit (.strVal s)) => s == nm | .lit (.strVal s) => s == nm | _ => false) || (n.find? fun y => y == mkStrLit nm).isSome && !(n.find? fun y => y.isAppOf ``PySem.Stmt.FunctionDef).isSome | none => false)
def addLawDefs : TermElabM Unit := do
  let some (.defnInfo d) := (← getEnv).find? ``PySem.Challenge.pw_ae5031_04 | throwError "no program"
  let some f := findDef d.value "law" | throwError "no law"
  let a := f.getAppArgs
  let stTy := mkApp (mkConst ``List [0]) (mkConst ``PySem.Stmt)
  let mut body? : Option Lean.Expr := none
  let mut sc? : Option Lean.Expr := none
  for x in a do
    let t ← inferType x
    if t == mkConst ``PySem.Scope && sc?.isNone then sc? := some x
    if (← isDefEq t stTy) && body?.isNone then body? := some x
  let some body := body? | throwError "no body"
  let some sc := sc? | throwError "no scope"
  let some (_, stmts) := body.listLit? | throwError "no list"
  let add (n : Name) (ty v : Lean.Expr) : TermElabM Unit := do
    addDecl (.defnDecl { name := n, levelParams := [], type := ty, value := v, hints := .abbrev, safety := .safe })
    enableRealizationsForConst n
  let st := mkConst ``PySem.Stmt
  add `Mine.lawScope (mkConst ``PySem.Scope) sc
  add `Mine.lawBody stTy body
  add `Mine.stmt1 st stmts[0]!
  add `Mine.lawFor st stmts[1]!
  add `Mine.lawFor2 st stmts[2]!
  add `Mine.lawRet st stmts[3]!
  let fb := (stmts[1]!.getAppArgs)[2]!
  let some (_, fs) := fb.listLit? | throwError "no for body"
  add `Mine.forBody stTy fb
  add `Mine.forHead stTy (← mkListLit st (fs.take 4))
  add `Mine.chain st fs[4]!
  let fb2 := (stmts[2]!.getAppArgs)[2]!
  add `Mine.forBody2 stTy fb2
  logInfo m!"{fs.length} statements in the loop, {stmts.length} in the law"
theorem lawDefs : True := by
  run_tac (do addLawDefs)
  trivial
end Mine
end
section
theorem Mine.freshU1 : True := by
  run_tac (do PyProof.Rows.walkLines.set (0, {}); PyProof.Rows.walkHit.set {}; PyProof.Rows.walkTop.set false; PyProof.Rows.walkStart.set 0; PyProof.Rows.walkLate.set false)
  trivial
open PySem PySem.W PySem.Calls PyProof.Rows PySem.Spec
set_option Elab.async false
set_option maxRecDepth 100000
set_option maxHeartbeats 400000
set_option linter.unusedVariables false
set_option linter.unusedSimpArgs false
namespace Mine
section
variable {h₀ h : Heap} {L : Addr} {news news' ns : List (Addr × Obj)}
theorem news_fun (N : News h₀ L h news) {p q : Addr × Obj} (hp : p ∈ news) (hq : q ∈ news) (e : p.1 = q.1) : p = q := by
  have a := (N p hp).1
  have b := (N q hq).1
  rw [e, b] at a
  exact Prod.ext e (Option.some.inj a).symm
theorem ne_obj (N : News h₀ L h news) {a b : Addr} {o o' : Obj} (hp : (a, o) ∈ news) (hq : (b, o') ∈ news) (e : o ≠ o') : @Ne Nat a b := fun q => e (by
  have := news_fun N hp hq q
  exact congrArg Prod.snd this)
def restOf (ns news : List (Addr × Obj)) : List (Addr × Obj) := news.filter fun p => decide (p.1 ∉ ns.map (·.1))
theorem restOf_off {a : Addr} (ha : a ∈ ns.map (·.1)) : ∀ p ∈ restOf ns news, p.1 ≠ a := fun p hp e => by
  have := (List.mem_filter.mp hp).2
  rw [e] at this
  exact (of_decide_eq_true this) ha
theorem restOf_sub : ∀ p ∈ restOf ns news, p ∈ news := fun p hp => (List.mem_filter.mp hp).1
theorem parts (N : News h₀ L h news) (hns : ∀ p ∈ ns, p ∈ news) : News h₀ L h (ns ++ restOf ns news) := fun p hp => (List.mem_append.mp hp).elim (fun q => N p (hns p q)) fun q => N p (restOf_sub p q)
theorem cover (N : News h₀ L h news) (hns : ∀ p ∈ ns, p ∈ news) {p : Addr × Obj} (hp : p ∈ news) : p ∈ ns ++ restOf ns news := by
  by_cases q : p.1 ∈ ns.map (·.1)
  · obtain ⟨r, hr, e⟩ := List.mem_map.mp q
    have := news_fun N (hns r hr) hp e
    exact List.mem_append.mpr (.inl (this ▸ hr))
  · exact List.mem_append.mpr (.inr (List.mem_filter.mpr ⟨hp, decide_eq_true q⟩))
theorem upd_cover {a : Addr} {o o' : Obj} (U : Upd a o o' news news') {p : Addr × Obj} (hp : p ∈ news') : p = (a, o') ∨ (p ∈ news ∧ p.1 ≠ a) := by
  obtain ⟨pre, post, rfl, rfl, p1, p2⟩ := U.split
  rcases List.mem_append.mp hp with hp | hp
  · exact .inr ⟨List.mem_append.mpr (.inl hp), p1 p hp⟩
  · rcases List.mem_cons.mp hp with hp | hp
    · exact .inl hp
    · exact .inr ⟨List.mem_append.mpr (.inr (.tail _ hp)), p2 p hp⟩
theorem upd_mem {a : Addr} {o o' : Obj} (U : Upd a o o' news news') : (a, o) ∈ news := by
  obtain ⟨pre, post, rfl, rfl, p1, p2⟩ := U.split
  exact List.mem_append.mpr (.inr (.head _))
theorem upd_keep {a b : Addr} {o o' q : Obj} (U : Upd a o o' news news') (hm : (b, q) ∈ news) (hne : @Ne Nat b a) : (b, q) ∈ news' := by
  obtain ⟨pre, post, rfl, rfl, p1, p2⟩ := U.split
  rcases List.mem_append.mp hm with hp | hp
  · exact List.mem_append.mpr (.inl hp)
  · rcases List.mem_cons.mp hp with hp | hp
    · exact absurd (congrArg Prod.fst hp) hne
    · exact List.mem_append.mpr (.inr (.tail _ hp))
theorem upd_addr {a : Addr} {o o' : Obj} (U : Upd a o o' news news') : news'.map (·.1) = news.map (·.1) := by
  obtain ⟨pre, post, rfl, rfl, p1, p2⟩ := U.split
  simp
theorem updF_cover {a : Addr} {o o' : Obj} {g : Obj → List (Addr × Obj)} (U : UpdF a o news g) {p : Addr × Obj} (hp : p ∈ g o') : p = (a, o') ∨ (p ∈ news ∧ p.1 ≠ a) := by
  obtain ⟨pre, post, rfl, hg, p1, p2⟩ := U.split
  rw [hg] at hp
  rcases List.mem_append.mp hp with hp | hp
  · exact .inr ⟨List.mem_append.mpr (.inl hp), p1 p hp⟩
  · rcases List.mem_cons.mp hp with hp | hp
    · exact .inl hp
    · exact .inr ⟨List.mem_append.mpr (.inr (.tail _ hp)), p2 p hp⟩
theorem updF_mem {a : Addr} {o : Obj} {g : Obj → List (Addr × Obj)} (U : UpdF a o news g) : (a, o) ∈ news := by
  obtain ⟨pre, post, rfl, hg, p1, p2⟩ := U.split
  exact List.mem_append.mpr (.inr (.head _))
theorem ne_cls {o o' : Obj} (h : o.cls ≠ o'.cls) : o ≠ o' := fun e => h (congrArg Obj.cls e)
theorem news_sub (N : News h₀ L h news) (hs : ∀ p ∈ news', p ∈ news) : News h₀ L h news' := fun p hp => N p (hs p hp)
theorem sub_cons {a : Addr × Obj} {l l' : List (Addr × Obj)} (h : a ∈ l') (hs : ∀ p ∈ l, p ∈ l') : ∀ p ∈ a :: l, p ∈ l' := fun p hp => (List.mem_cons.mp hp).elim (fun e => e ▸ h) (hs p)
theorem sub_tail {a : Addr × Obj} {l l' : List (Addr × Obj)} (hs : ∀ p ∈ l, p ∈ l') : ∀ p ∈ l, p ∈ a :: l' := fun p hp => .tail _ (hs p hp)
def Off (a : Addr) (l : List Addr) : Prop := ∀ b ∈ l, @Ne Nat a b
theorem Off.l {a b : Addr} {l : List Addr} (h : Off a l) (hb : b ∈ l) : @Ne Nat a b := h b hb
theorem Off.r {a b : Addr} {l : List Addr} (h : Off a l) (hb : b ∈ l) : @Ne Nat b a := (h b hb).symm
def OffN (d : Addr) (l : List (Addr × Obj)) : Prop := ∀ p ∈ l, @Ne Nat p.1 d
theorem OffN.l {d b : Addr} {o : Obj} {l : List (Addr × Obj)} (h : OffN d l) (hb : (b, o) ∈ l) : @Ne Nat b d := h _ hb
theorem OffN.r {d b : Addr} {o : Obj} {l : List (Addr × Obj)} (h : OffN d l) (hb : (b, o) ∈ l) : @Ne Nat d b := (h _ hb).symm
theorem OffN.tl {d : Addr} {l t : List (Addr × Obj)} (h : OffN d l) (hs : ∀ p ∈ t, p ∈ l) : ∀ p ∈ t, p.1 ≠ d := fun p hp => h p (hs p hp)
def AllNew (d : Addr) (l : List (Addr × Obj)) : Prop := ∀ p ∈ l, @LT.lt Nat _ p.1 d
theorem AllNew.ne {d : Addr} {l : List (Addr × Obj)} (h : AllNew d l) {b : Addr} {o : Obj} (hb : (b, o) ∈ l) : @Ne Nat d b := Nat.ne_of_gt (h _ hb)
theorem allNew_of {d : Addr} : ∀ {l : List (Addr × Obj)}, AllLt d l → AllNew d l
  | [], _ => fun _ hp => nomatch hp
  | _ :: _, h => fun p hp => by
    rcases List.mem_cons.mp hp with rfl | hp
    · exact h.1
    · exact allNew_of h.2 p hp
theorem my_off {I : Addr} {l : List (Addr × Obj)} (h : AllLt I l) : ∀ p ∈ l, p.1 ≠ I := fun p hp => Nat.ne_of_lt (allNew_of h p hp)
end
end Mine
end
section
theorem Mine.freshB1 : True := by
  run_tac (do PyProof.Rows.walkLines.set (0, {}); PyProof.Rows.walkHit.set {}; PyProof.Rows.walkTop.set false; PyProof.Rows.walkStart.set 0; PyProof.Rows.walkLate.set false)
  trivial
open PySem PySem.W PySem.Calls PyProof.Rows PySem.Spec
set_option Elab.async false
set_option maxRecDepth 100000
set_option maxHeartbeats 400000
set_option linter.unusedVariables false
set_option linter.unusedSimpArgs false
namespace Mine
theorem owner_ba : Manifest.owners.lookup (String.ofList ['y', 'a', 'r', 'r', 'a', 'e', 't', 'y', 'b'].reverse) = some Manifest.sig_bytearray := by kernel_rfl
theorem slot_ba_len : Slot "bytearray" "__len__" "bytearray.__len__" :=
  .of (owner := "bytearray") (n := "__len__") (by rw [typeLookup_type, builtinLookup_eq_fast]; kernel_rfl) (by decide +kernel) (by decide +kernel) (by decide +kernel)
    (by first | exact .inl (by decide +kernel) | exact .inr (by decide +kernel)) (by rw [isSubtype_type]; kernel_rfl)
theorem entry_ba_len : entryFor table "bytearray.__len__" = some Builtin.«bytearray.__len__» := entryFor_of_tree (by kernel_rfl)
theorem args_ba_len (a : Value) : argsOk "bytearray.__len__" ⟨[a], []⟩ := by
  unfold argsOk; rw [signature?_of (id := "bytearray.__len__") (n := ['_', '_', 'n', 'e', 'l', '_', '_']) (o := ['y', 'a', 'r', 'r', 'a', 'e', 't', 'y', 'b']) (by kernel_rfl) owner_ba]; kernel_rfl
abbrev baObj : Obj := { cls := .type "bytearray", data := .bytearray #[] 0 }
section
variable {prog : Program} {w : World} {A : Around} {E : Value → Shared → Prop} {s : Shared}
theorem len_ba {l : Addr} {Q : Value → Shared → Prop} (ho : s.heap.get? l = some baObj)
    (h : Q (.int 0 (s.toks + 1)) { s with toks := s.toks + 1 + 1 }) : wpAny (model prog w) A (call (.builtin "len") [.ref l]) Q E s := by
  have hT : s.TypeIs (.ref l) "bytearray" := ⟨_, ho, rfl⟩
  refine call_function_entry kind_len plain_len entry_len (args_len1 _) ?_
  unfold Builtin.«len»
  refine wpAny_bind (m := oneArg "len" _) (wpAny_pure ?_)
  refine wpAny_bind (m := callSpecial? (.ref l) (Str.ofString "__len__")) (wpAny_callSpecial?_slot (name := Str.ofString "__len__") hT slot_ba_len
    (wpAny_call_entry slot_ba_len hT entry_ba_len ?_ (args_ba_len _)))
  · show wpAny _ _ (do retInt (← Builtin.Bytes.payload (.ref l)).size) _ _ s
    unfold Builtin.Bytes.payload Builtin.Bytes.payload?
    refine wpAny_bind (wpAny_bind (wpAny_bind (wpAny_load ho ?_)))
    refine wpAny_pure (wpAny_pure (wpAny_bind (wpAny_mkInt (wpAny_pure ⟨_, rfl, ?_⟩))))
    refine wpAny_bind (wpAny_holding (wpAny_pure ?_))
    refine wpAny_bind (wpAny_letGo ?_)
    show wpAny _ _ (if ((0 : Nat) : Int) < 0 then _ else _) _ _ _
    rw [if_neg (by omega)]
    show wpAny _ _ (if ((0 : Nat) : Int) ≥ 2 ^ 63 then _ else _) _ _ _
    rw [if_neg (by omega)]
    exact wpAny_bind (wpAny_mkInt (wpAny_pure ⟨_, rfl, h⟩))
theorem in_bytes {x : Array UInt8} {i : Int} {t u : Tok} {Q : Value → Shared → Prop} (h0 : 0 ≤ i) (h1 : i < 256) (h : Q (.bool (x.contains i.toNat.toUInt8)) s) :
    wpAny (model prog w) A (compareOp .In (.int i t) (.bytes x u)) Q E s := by
  have hT := PySem.W.typeIs_bytes s x u
  show wpAny _ _ (do return .bool (← contains (.bytes x u) (.int i t))) Q E s
  refine wpAny_bind ?_
  unfold contains
  try with_reducible refine wpAny_holding ?_
  refine wpAny_bind (wpAny_specialOf hT PySem.W.FB.slot_bytes_contains.lookup ?_)
  show wpAny _ _ (if (some (Value.builtin "bytes.__contains__") == some Value.none) = true then _ else _) _ E s
  rw [if_neg (by rw [beq_builtin_none]; exact Bool.false_ne_true)]
  refine wpAny_bind (wpAny_callSpecialUnlessNone?_slot (name := Str.ofString "__contains__") hT PySem.W.FB.slot_bytes_contains
    (wpAny_call_entry PySem.W.FB.slot_bytes_contains hT PySem.W.FB.entry_bytes_contains ?_ (PySem.W.FB.args_bytes_contains_2 _ _)))
  show wpAny _ _ (Builtin.Bytes.containsIn "bytes.__contains__" (.bytes x u) (.int i t) >>= _) _ _ s
  unfold Builtin.Bytes.containsIn
  refine wpAny_bind (wpAny_bind (wpAny_of_eq (a := Except.ok i) (by first | rfl | kernel_rfl) ?_))
  refine wpAny_bind (wpAny_of_eq PySem.W.KBy.buffer_eq ?_)
  show wpAny _ _ (if (decide (i < 0) || decide (i ≥ 256)) = true then _ else _) _ _ _
  rw [if_neg (by simp; omega)]
  refine wpAny_pure (wpAny_pure ⟨_, rfl, ?_⟩)
  exact wpAny_pure (wpAny_pure h)
theorem in_bytes_true {x : Array UInt8} {i : Int} {t u : Tok} {Q : Value → Shared → Prop} (h0 : 0 ≤ i) (h1 : i < 256) (e : x.contains i.toNat.toUInt8 = true) (h : Q (.bool true) s) :
    wpAny (model prog w) A (compareOp .In (.int i t) (.bytes x u)) Q E s := in_bytes h0 h1 (e ▸ h)
theorem truthy_b0 {t : Tok} {Q : Bool → Shared → Prop} (h : Q false { s with toks := s.toks + 1 + 1 }) : wpAny (model prog w) A (truthy (.bytes #[] t)) Q E s :=
  truthy_bytes (by decide) h
theorem ne_strs_true {x y : Str} {t u : Tok} {Q : Value → Shared → Prop} (hxy : x ≠ y) (h : Q (.bool true) s) : wpAny (model prog w) A (compareOp .NotEq (.str x t) (.str y u)) Q E s := by
  refine cmp_ofNotEq (SeqAt.RcNeAt.str_str x t y u prog w E Q ?_)
  have e : (x == y) = false := beq_eq_false_iff_ne.mpr hxy
  rw [e]; exact h
theorem ne_strs_false {x : Str} {t u : Tok} {Q : Value → Shared → Prop} (h : Q (.bool false) s) : wpAny (model prog w) A (compareOp .NotEq (.str x t) (.str x u)) Q E s := by
  refine cmp_ofNotEq (SeqAt.RcNeAt.str_str x t x u prog w E Q ?_)
  rw [beq_self_eq_true]; exact h
theorem eq_strs_false {x y : Str} {t u : Tok} {Q : Value → Shared → Prop} (hxy : x ≠ y) (h : Q (.bool false) s) : wpAny (model prog w) A (compareOp .Eq (.str x t) (.str y u)) Q E s := by
  refine cmp_ofEq (SeqAt.RcAt.str_str x t y u prog w E Q ?_)
  have e : (x == y) = false := beq_eq_false_iff_ne.mpr hxy
  rw [e]; exact h
theorem eq_strs_true {x : Str} {t u : Tok} {Q : Value → Shared → Prop} (h : Q (.bool true) s) : wpAny (model prog w) A (compareOp .Eq (.str x t) (.str x u)) Q E s := by
  refine cmp_ofEq (SeqAt.RcAt.str_str x t x u prog w E Q ?_)
  rw [beq_self_eq_true]; exact h
theorem len_ba_K {h₀ : Heap} {L l : Addr} {news : List (Addr × Obj)} {Q : Value → Shared → Prop} (N : News h₀ L s.heap news) (hm : (l, baObj) ∈ news)
    (h : Q (.int 0 (s.toks + 1)) { s with toks := s.toks + 1 + 1 }) : wpAny (model prog w) A (call (.builtin "len") [.ref l]) Q E s := len_ba (N _ hm).1 h
end
end Mine
end
section
theorem Mine.freshC1 : True := by
  run_tac (do PyProof.Rows.walkLines.set (0, {}); PyProof.Rows.walkHit.set {}; PyProof.Rows.walkTop.set false; PyProof.Rows.walkStart.set 0; PyProof.Rows.walkLate.set false)
  trivial
open PySem PySem.W PySem.Calls PyProof.Rows PySem.Spec
set_option Elab.async false
set_option maxRecDepth 100000
set_option maxHeartbeats 400000
set_option linter.unusedVariables false
set_option linter.unusedSimpArgs false
namespace Mine
def fld2 (o : Obj) : Option Value := match o.data with | .fields vs => vs[2]? | _ => none
def Ctx0 (h : Heap) (e : Addr) : Prop := ∃ o, h.get? e = some o ∧ fld2 o = some .none
def P2 {α : Type} : Sem α → Prop
  | .pure _ => True
  | .raise _ => True
  | .unsupported _ => True
  | .finish _ => True
  | .rule _ k => P2 (k ())
  | .at _ k => P2 (k ())
  | .point _ k => P2 (k ())
  | .load _ _ k => ∀ o, P2 (k o)
  | .update _ _ f k => (∀ o, fld2 (f o) = fld2 o) ∧ P2 (k ())
  | .loadIfAlive _ k => ∀ o, P2 (k o)
  | .alloc _ k => ∀ a, P2 (k a)
  | .fresh k => ∀ t, P2 (k t)
  | .ask k => ∀ s, P2 (k s)
  | .stack k => ∀ l, P2 (k l)
  | .handled _ k => ∀ v, P2 (k v)
  | .register _ _ => True
  | _ => False
theorem data_of_fld2 {o : Obj} {v : Value} (h : fld2 o = some v) : ∃ vs, o.data = .fields vs := by
  unfold fld2 at h
  split at h
  · exact ⟨_, by assumption⟩
  · cases h
theorem Ctx0.update {h : Heap} {e a : Addr} {f : Obj → Obj} (x : Ctx0 h e) (hf : ∀ o, fld2 (f o) = fld2 o) : Ctx0 (h.update a f) e := by
  obtain ⟨o, ho, h2⟩ := x
  by_cases q : a = e
  · subst q
    obtain ⟨vs, hd⟩ := data_of_fld2 ((hf o).trans h2)
    exact ⟨f o, Heap.get?_update_self f ho (Obj.isFreed_of_fields hd), (hf o).trans h2⟩
  · exact ⟨o, (Heap.get?_update_other _ _ q).trans ho, h2⟩
theorem Ctx0.push {h : Heap} {e : Addr} {o' : Obj} (x : Ctx0 h e) : Ctx0 (h.push o') e := by
  obtain ⟨o, ho, h2⟩ := x
  exact ⟨o, Heap.get?_push_of_some _ ho, h2⟩
theorem wp_p2 {α : Type} {M : Model} {Γ : PySem.Ctx} {Q : α → Pos → Shared → Prop} {E : Value → Pos → Shared → Prop} {e : Addr} : ∀ (t : Sem α) (p : Pos) (s : Shared), P2 t → Ctx0 s.heap e → Sem.wp M Γ t Q E p s →
    Sem.wp M Γ t (fun a p s' => Q a p s' ∧ Ctx0 s'.heap e) (fun x p s' => E x p s' ∧ Ctx0 s'.heap e) p s
  | .pure _, _, _, _, c, h => ⟨h, c⟩
  | .raise _, _, _, _, c, h => ⟨h, c⟩
  | .unsupported _, _, _, _, _, h => h
  | .finish _, _, _, _, _, h => h
  | .rule _ k, p, s, n, c, h => wp_p2 (k ()) p s n c h
  | .at q k, _, s, n, c, h => wp_p2 (k ()) q s n c h
  | .point _ k, p, s, n, c, h => wp_p2 (k ()) p s n c h
  | .load _ _ k, p, s, n, c, ⟨o, ho, h⟩ => ⟨o, ho, wp_p2 (k o) p s (n o) c h⟩
  | .update a _ f k, p, s, n, c, ⟨ho, h⟩ => ⟨ho, wp_p2 (k ()) p _ n.2 (c.update n.1) h⟩
  | .loadIfAlive a k, p, s, n, c, h => wp_p2 (k (s.heap.get? a)) p s (n _) c h
  | .alloc o k, p, s, n, c, h => wp_p2 (k s.heap.objs.size) p _ (n _) c.push h
  | .fresh k, p, s, n, c, h => wp_p2 (k s.toks) p _ (n _) c h
  | .ask k, p, s, n, c, h => wp_p2 (k _) p s (n _) c h
  | .stack k, p, s, n, c, h => wp_p2 (k _) p s (n _) c h
  | .handled own k, p, s, n, c, h => wp_p2 (k _) p s (n _) c h
  | .register _ _, _, _, _, _, h => h.elim
  | .choose .., _, _, n, _, _ => n.elim
  | .os .., _, _, n, _, _ => n.elim
  | .call .., _, _, n, _, _ => n.elim
  | .newGen .., _, _, n, _, _ => n.elim
  | .genState .., _, _, n, _, _ => n.elim
  | .resume .., _, _, n, _, _ => n.elim
  | .yield .., _, _, n, _, _ => n.elim
  | .fork .., _, _, n, _, _ => n.elim
  | .thread .., _, _, n, _, _ => n.elim
  | .await .., _, _, n, _, _ => n.elim
theorem wpAny_p2 {α : Type} {M : Model} {A : Around} {t : Sem α} {Q : α → Shared → Prop} {E : Value → Shared → Prop} {s : Shared} {e : Addr} (n : P2 t) (c : Ctx0 s.heap e) (h : wpAny M A t Q E s) :
    wpAny M A t (fun a s' => Q a s' ∧ Ctx0 s'.heap e) (fun x s' => E x s' ∧ Ctx0 s'.heap e) s := fun Γ p hΓ => wp_p2 t p s n c (h Γ p hΓ)
theorem P2.bind {α β : Type} {f : α → Sem β} (hf : ∀ a, P2 (f a)) : ∀ {m : Sem α}, P2 m → P2 (m >>= f)
  | .pure a, _ => hf a
  | .raise _, _ => trivial
  | .unsupported _, _ => trivial
  | .finish _, _ => trivial
  | .rule _ k, h => P2.bind hf (m := k ()) h
  | .at _ k, h => P2.bind hf (m := k ()) h
  | .point _ k, h => P2.bind hf (m := k ()) h
  | .load _ _ k, h => fun o => P2.bind hf (m := k o) (h o)
  | .update _ _ _ k, h => ⟨h.1, P2.bind hf (m := k ()) h.2⟩
  | .loadIfAlive _ k, h => fun o => P2.bind hf (m := k o) (h o)
  | .alloc _ k, h => fun o => P2.bind hf (m := k o) (h o)
  | .fresh k, h => fun o => P2.bind hf (m := k o) (h o)
  | .ask k, h => fun o => P2.bind hf (m := k o) (h o)
  | .stack k, h => fun o => P2.bind hf (m := k o) (h o)
  | .handled _ k, h => fun o => P2.bind hf (m := k o) (h o)
  | .register _ _, _ => trivial
  | .choose .., n => n.elim
  | .os .., n => n.elim
  | .call .., n => n.elim
  | .newGen .., n => n.elim
  | .genState .., n => n.elim
  | .resume .., n => n.elim
  | .yield .., n => n.elim
  | .fork .., n => n.elim
  | .thread .., n => n.elim
  | .await .., n => n.elim
theorem P2.pure' {α : Type} {a : α} : P2 (pure a : Sem α) := trivial
theorem p2_load (a : Addr) : P2 (load a) := fun _ => trivial
theorem p2_stack : P2 stack := fun _ => trivial
theorem p2_update {a : Addr} {f : Obj → Obj} (h : ∀ o, fld2 (f o) = fld2 o) : P2 (update a f) := ⟨h, trivial⟩
theorem fld2_set {i : Nat} {v : Value} (hi : i ≠ 2) (o : Obj) : fld2 (Obj.mapFields (·.setIfInBounds i v) o) = fld2 o := by
  obtain ⟨c, d, dt, sl⟩ := o
  cases dt <;> first | rfl | skip
  show (Array.setIfInBounds _ i v)[2]? = _
  rw [Array.getElem?_setIfInBounds_ne hi]
  rfl
theorem p2_field (v : Value) (i : Nat) : P2 (field v i) := by
  unfold field fieldsOf
  refine P2.bind (fun vs => ?_) ?_
  · split <;> exact trivial
  · split
    · refine P2.bind (fun o => ?_) (p2_load _)
      split <;> exact trivial
    · exact trivial
theorem p2_setField (v : Value) (i : Nat) (x : Value) (hi : i ≠ 2) : P2 (setField v i x) := by
  unfold setField
  split
  · unfold updateField
    refine P2.bind (fun o => ?_) (p2_load _)
    split
    · split
      · exact p2_update (fld2_set hi)
      · exact trivial
    · exact trivial
  · exact trivial
theorem p2_setFlight (e : Value) (f : Option Addr) : P2 (setFlight e f) := by
  unfold setFlight
  refine P2.bind (fun tb => ?_) (p2_field _ _)
  split
  · exact p2_setField _ _ _ (by decide)
  · exact trivial
theorem p2_any (f : Code × Pos → Bool) : P2 (do return (← stack).any f) := by
  refine P2.bind (fun _ => ?_) p2_stack
  exact trivial
theorem p2_behind (env : Env) (outer : List Env) : P2 (behindIsImport env outer) := by
  unfold behindIsImport
  split
  · exact trivial
  · split
    · exact trivial
    · refine P2.bind (fun _ => ?_) (p2_field _ _)
      exact trivial
theorem p2_kept (env : Env) (b : Bool) : ∀ (l : List Env), P2 (keptBack env b l)
  | [] => by
    show P2 (if (env.scope.isGenerator || env.scope.isCoroutine) = true then pure Value.none else do return if ← underTheClaimsCaller then .notImplemented else .none)
    split
    · exact trivial
    · refine P2.bind (fun _ => ?_) (p2_any _)
      exact trivial
  | _ :: _ => by
    unfold keptBack
    exact trivial
theorem p2_ready : ∀ (l : List Env), P2 (readyFrames l)
  | [] => trivial
  | env :: outer => by
    unfold readyFrames
    split
    · refine P2.bind (fun o => ?_) (p2_load _)
      split
      · exact trivial
      · refine P2.bind (fun b => ?_) (p2_behind _ _)
        refine P2.bind (fun b => ?_) (p2_kept _ _ _)
        refine P2.bind (fun _ => ?_) (p2_update fun o => by obtain ⟨c, d, dt, sl⟩ := o; rfl)
        exact p2_ready outer
    · exact trivial
theorem p2_frameOf (env : Env) : P2 (PySem.frameOf env) := by
  unfold PySem.frameOf
  refine P2.bind (fun l => ?_) ?_
  · refine P2.bind (fun l => ?_) ?_
    · split <;> exact trivial
    · unfold frameObject
      split
      · exact trivial
      · refine P2.bind (fun _ => ?_) (p2_ready _)
        exact trivial
  · unfold frameEnvs
    refine P2.bind (fun _ => ?_) p2_stack
    exact trivial
theorem p2_place (f : Addr) (b : Bool) : P2 (entryPlaceOf f b) := by
  unfold entryPlaceOf
  refine P2.bind (fun l => ?_) p2_stack
  split <;> exact trivial
theorem p2_as (t : String) (d : Data) : P2 (newObjAsIs (.type t) d) := fun _ => trivial
theorem p2_fields (t : String) (vs : List Value) : P2 (newFields t vs) := by
  unfold newFields newObj
  dsimp only
  split
  · refine P2.bind (m := unsupported _) (fun _ => ?_) trivial
    exact p2_as _ _
  · exact p2_as _ _
theorem p2_entry (a b c d e : Value) (pl : List Value) : P2 (EntryCells.newEntry a b c d e pl) := p2_fields _ _
theorem p2_note (e : Value) (env : Env) : P2 (noteFrame e env) := by
  unfold noteFrame
  split
  · rename_i f _
    refine P2.bind (fun head => ?_) (p2_field _ _)
    have last : P2 (do setField e 1 (← EntryCells.newEntry head (← PySem.frameOf env) .none (rawInt f) .none (← entryPlaceOf f (head != .none)))) := by
      refine P2.bind (fun _ => ?_) (p2_frameOf _)
      refine P2.bind (fun _ => ?_) (p2_place _ _)
      refine P2.bind (fun _ => ?_) (p2_entry _ _ _ _ _ _)
      exact p2_setField _ _ _ (by decide)
    split
    · refine P2.bind (fun v => ?_) (p2_field _ _)
      split
      · exact trivial
      · refine P2.bind (fun _ => ?_) (p2_setField _ _ _ (by decide))
        exact last
    · exact last
  · exact trivial
theorem p2_leaving (env : Env) (e : Value) : P2 («leaving» env e) := by
  refine P2.bind (fun _ => ?_) (p2_note _ _)
  exact p2_setFlight _ _
end Mine
end
section
theorem Mine.freshC2 : True := by
  run_tac (do PyProof.Rows.walkLines.set (0, {}); PyProof.Rows.walkHit.set {}; PyProof.Rows.walkTop.set false; PyProof.Rows.walkStart.set 0; PyProof.Rows.walkLate.set false)
  trivial
open PySem PySem.W PySem.Calls PyProof.Rows PySem.Spec
set_option Elab.async false
set_option maxRecDepth 100000
set_option maxHeartbeats 400000
set_option linter.unusedVariables false
set_option linter.unusedSimpArgs false
namespace Mine
theorem entry_unchain : entryFor table "proto.unchain" = some Builtin.«proto.unchain» := entryFor_of_tree (by kernel_rfl)
section
variable {prog : Program} {w : World} {A : Around} {E : Value → Shared → Prop} {s : Shared}
theorem raise_chain {α : Type} {e x : Addr} {ox : Obj} {vs : Array Value} {Q : α → Shared → Prop} (hh : A.handled = some (.ref e)) (hne : x ≠ e) (c : Ctx0 s.heap e) (hx : s.heap.get? x = some ox) (hd : ox.data = .fields vs) (hz : 2 < vs.size)
    (h : E (.ref x) { s with heap := s.heap.update x (Obj.mapFields (·.setIfInBounds 2 (.ref e))) }) : wpAny (model prog w) A (raiseNew (.ref x) : Sem α) Q E s := by
  obtain ⟨oe, he, h2⟩ := c
  obtain ⟨ws, hw⟩ := data_of_fld2 h2
  have hw2 : ws[2]? = some .none := by unfold fld2 at h2; rw [hw] at h2; exact h2
  unfold raiseNew
  refine wpAny_bind (wpAny_handled ?_)
  rw [hh]
  have hb : ((Value.ref e) != (.ref x)) = true := by simp [bne_iff_ne]; exact fun q => hne q.symm
  dsimp only
  rw [if_pos hb]
  refine wpAny_bind (wpAny_holding (wpAny_runValue (codeAny_builtin entry_unchain ?_)))
  show wpAny _ _ (field (.ref e) 2 >>= _) _ _ s
  refine wpAny_bind (wpAny_field he hw hw2 ?_)
  show wpAny _ _ (if (Value.none == Value.none) = true then _ else _) _ _ s
  rw [if_pos (by rfl)]
  show wpAny _ _ (ret .none >>= fun f => pure f) _ _ s
  refine wpAny_bind (wpAny_pure (wpAny_pure ?_))
  unfold updateField
  refine wpAny_bind (wpAny_bind (wpAny_load hx ?_))
  rw [hd]
  dsimp only
  rw [if_pos hz]
  exact wpAny_update hx (wpAny_throw h)
theorem range_end_H {it e : Addr} {x left step : Int} {Q : Option Value → Shared → Prop} (hh : A.handled = some (.ref e)) (c : Ctx0 s.heap e) (hit : IsRangeIter s.heap it x left step) (hleft : left ≤ 0)
    (hQ : ∀ h', Heap.ExtBut it s.heap h' → Q none { s with heap := h' }) : wpAny (model prog w) A (pyNext (.ref it)) Q E s := by
  have hT : s.TypeIs (.ref it) "range_iterator" := ⟨_, hit, rfl⟩
  unfold pyNext
  refine wpAny_bind (wpAny_attempt (wpAny_callSpecial?_slot (name := Str.ofString "__next__") hT F.slot_range_iterator_next
    (wpAny_call_entry F.slot_range_iterator_next hT F.entry_range_iterator_next ?_ (F.args_range_iterator_next_1 _))))
  show wpAny _ _ (field (.ref it) 0 >>= _) _ _ s
  refine wpAny_bind (wpAny_field hit rfl (x := rawInt x) rfl ?_)
  show wpAny _ _ (field (.ref it) 1 >>= _) _ _ s
  refine wpAny_bind (wpAny_field hit rfl (x := rawInt left) rfl ?_)
  show wpAny _ _ (field (.ref it) 2 >>= _) _ _ s
  refine wpAny_bind (wpAny_field hit rfl (x := rawInt step) rfl ?_)
  show wpAny _ _ (if left ≤ 0 then _ else _) _ _ s
  rw [if_pos hleft]
  refine wpAny_bind (wpAny_rule ?_)
  refine wpAny_bind ?_
  show wpAny _ _ (newExc (.type "StopIteration") [] >>= _) _ _ _
  refine wpAny_bind ?_
  simp only [newExc, newTuple]
  refine wpAny_bind (wpAny_newObj_type ?_ (by size_fits))
  refine wpAny_bind (m := firstArgMember _ _) (wpAny_of_eq (a := Value.none) (by first | rfl | (simp only [firstArgMember]; rfl)) ?_)
  refine wpAny_newObj_type ?_ (by size_fits)
  have hlt : e < s.heap.objs.size := by obtain ⟨oe, he, _⟩ := c; exact Heap.lt_size he
  refine raise_chain (by first | exact hh | (show A.in1.handled = _; exact hh)) (Nat.ne_of_gt (Nat.lt_of_lt_of_le hlt (by simp))) c.push.push (Heap.get?_push_size _ rfl) rfl (Nat.lt_of_lt_of_le (by decide : 2 < 6) (by simp)) ?_
  refine wpAny_bind (wpAny_isInstance (T := "StopIteration") (b := true) ⟨_, Heap.get?_update_self _ (Heap.get?_push_size _ rfl) rfl, rfl⟩ isSubtype_stop ?_)
  refine wpAny_pure (hQ _ ?_)
  have hb := ((Heap.ExtBut.refl it s.heap).push { cls := .type "tuple", dict := none, data := .seq #[] 0 })
  intro b o hbn hb'
  refine (Heap.get?_update_other _ _ ?_).trans (Heap.get?_push_of_some _ (Heap.get?_push_of_some _ hb'))
  exact Nat.ne_of_gt (Nat.lt_of_lt_of_le (Heap.lt_size hb') (by simp))
theorem walks_rangeH (e : Addr) (hh : A.handled = some (.ref e)) (I : Addr) (hI : e ≠ I) (a c : Int) (n : Nat) :
    Walks prog w A I [I, e] [I] n (fun i v => ∃ t, v = .int (a + i * c) t) (fun i h => IsRangeIter h I (a + (i : Nat) * c) ((n : Int) - (i : Nat)) c ∧ Ctx0 h e) where
  sub := fun b hb => by simp at hb; simp [hb]
  frame := fun _ _ _ st hk => ⟨hk I (by simp) _ st.1, let ⟨o, ho, h2⟩ := st.2; ⟨o, hk e (by simp) _ ho, h2⟩⟩
  item := fun i s Q E hi st hQ => by
    refine wpAny_pyNext_range_item st.1 (by omega) fun h' hit' hs' => ?_
    refine hQ _ h' _ ⟨_, rfl⟩ ⟨?_, ?_⟩ fun b o hb e => hs'.extBut b o (fun h => hb (by simp [h])) e
    · have e1 : a + ((i + 1 : Nat) : Int) * c = a + (i : Int) * c + c := by push_cast; rw [Int.add_mul, Int.one_mul, Int.add_assoc]
      have e2 : (n : Int) - ((i + 1 : Nat) : Int) = (n : Int) - (i : Int) - 1 := by push_cast; omega
      rw [e1, e2]; exact hit'
    · obtain ⟨o, ho, h2⟩ := st.2
      exact ⟨o, hs'.extBut e o hI ho, h2⟩
  done := fun s Q E st hQ => range_end_H hh st.2 st.1 (by omega) fun h' he' => hQ h' s.toks fun b o hb e => he' b o (fun h => hb (by simp [h])) e
  self := fun _ _ _ _ st hQ => wpAny_pyIter_rangeiter st.1 hQ
end
end Mine
end
section
theorem Mine.freshC3 : True := by
  run_tac (do PyProof.Rows.walkLines.set (0, {}); PyProof.Rows.walkHit.set {}; PyProof.Rows.walkTop.set false; PyProof.Rows.walkStart.set 0; PyProof.Rows.walkLate.set false)
  trivial
open PySem PySem.W PySem.Calls PyProof.Rows PySem.Spec
set_option Elab.async false
set_option maxRecDepth 100000
set_option maxHeartbeats 400000
set_option linter.unusedVariables false
set_option linter.unusedSimpArgs false
namespace Mine
structure Exc0 (e T t : Addr) (cls : Value) (vs : List Value) (oe oT ot : Obj) : Prop where
  cls : oe.cls = cls
  dat : ∃ ws, oe.data = .fields ws ∧ ws[0]? = some (.ref t) ∧ ws[1]? = some (.ref T) ∧ ws[2]? = some .none
  tb : ∃ ts, oT.data = .fields ts ∧ 3 < ts.size
  args : ot.cls = .type "tuple" ∧ ∃ nt, ot.data = .seq vs.toArray nt
  n1 : @Ne Nat T e
  n2 : @Ne Nat t e
  n3 : @Ne Nat t T
theorem Exc0.fld {e T t : Addr} {cls : Value} {vs : List Value} {oe oT ot : Obj} (x : Exc0 e T t cls vs oe oT ot) : fld2 oe = some .none := by
  obtain ⟨ws, h, _, _, h2⟩ := x.dat
  unfold fld2; rw [h]; exact h2
section
variable {M : Model} {A : Around} {E : Value → Shared → Prop} {s' : Shared} {base g g₂ h : Heap} {outer : List Env} {L a e t : Addr} {m : Str → Option Value} {name : Str} {scope : Scope} {cd : Value} {Q : Unit → Shared → Prop} {news : List (Addr × Obj)}
theorem Ctx0.of_made {cls : Value} {vs : List Value} {h' : Heap} (hx : Heap.MadeExcOf h h' e cls vs) : Ctx0 h' e := by
  obtain ⟨t, he, _, _⟩ := hx.there
  exact ⟨_, he, rfl⟩
theorem leave_raiseSC {cls : Value} {vs : List Value} (K : Below A base outer g) (hx : Heap.MadeExcOf h s'.heap e cls vs) (F : Fr g L h m) (N : News g L h news)
    (hQ : ∀ h' t, RaisedS base g outer e cls t vs news h' → RaisedK base outer e cls t vs news h' → g.UpToSlots h' → Ctx0 h' e → Q () { s' with heap := h' }) (hk : scope.kind = .function := by rfl) :
    wpAny M (A.deeper (envOf name scope L a cd)) («leaving» (envOf name scope L a cd) (.ref e)) Q E s' := by
  refine wpAny_mono (wpAny_p2 (E := E) (Q := fun _ s'' => ∃ h' t, s'' = { s' with heap := h' } ∧ RaisedS base g outer e cls t vs news h' ∧ RaisedK base outer e cls t vs news h' ∧ g.UpToSlots h') (p2_leaving _ _) (Ctx0.of_made hx) (leave_raiseS K hx F N (fun h' t R R' U => ⟨h', t, rfl, R, R', U⟩) hk)) (fun _ s'' h => ?_) fun _ _ h => h.1
  obtain ⟨⟨h', t, rfl, R, R', U⟩, c⟩ := h
  exact hQ h' t R R' U c
end
section
variable {prog : Program} {w : World} {A₀ : Around} {E : Value → Shared → Prop} {s' : Shared} {base g g₀ G : Heap} {outer : List Env} {L a e t C : Addr} {m : Str → Option Value} {name : Str} {scope : Scope} {cd : Value}
  {vs : List Value} {n : Str} {b₀ : Stmt} {suite : List Stmt} {pos np : Pos} {rest : List ExceptHandler} {Q : Flow → Shared → Prop} {news : List (Addr × Obj)} {KF : Frag}
  {p : Program} {loose : List Str} {mean : ExcName → Option Value} {mg mb : Str → Option Value} {x y : Str} {X T' : String}
theorem p2_tr {α : Type} {M : Model} {A : Around} {tr : Sem α} {P : Heap → Prop} {Q : α → Shared → Prop} {E : Value → Shared → Prop} {s : Shared} {e : Addr} (n : P2 tr) (c : Ctx0 s.heap e)
    (h : ∀ {Q' : α → Shared → Prop}, (∀ a h', P h' → Q' a { s with heap := h' }) → wpAny M A tr Q' E s) (hQ : ∀ a h', P h' → Ctx0 h' e → Q a { s with heap := h' }) : wpAny M A tr Q E s := by
  refine wpAny_mono (wpAny_p2 (Q := fun a s'' => ∃ h', s'' = { s with heap := h' } ∧ P h') n c (h fun a h' p => ⟨h', rfl, p⟩)) (fun a s'' h => ?_) fun _ _ h => h.1
  obtain ⟨⟨h', rfl, p⟩, c⟩ := h
  exact hQ a h' p c
theorem caught_SOC (R : RaisedS base G (envOf name scope L a cd :: outer) e (.ref C) t vs news s'.heap) (c : Ctx0 s'.heap e) (F : Fr g L G m) (K : Below A₀ base outer g) (hsm : G.UpToSlots s'.heap) (XB : KF.In base) (TB : Top p loose mean mg mb base)
    (D : KtsDicts (outer.filterMap (·.frame)) g) (T0 : KtsTurn (outer.filterMap (·.frame)) g₀ g)
    (ex : nsIn KF mainGlobals x = some (some (.ref C))) (q : ktsIn KF C "BaseException" = true)
    (k : ∀ h' g' T oe oT ot, KtsTurn (outer.filterMap (·.frame)) g₀ g' → Fr g' L h' m → News g' L h' ((e, oe) :: (T, oT) :: (t, ot) :: news) → Exc0 e T t (.ref C) vs oe oT ot → (∀ q ∈ news, @Ne Nat q.1 e) → (∀ q ∈ news, @Ne Nat q.1 T) → (∀ q ∈ news, @Ne Nat q.1 t) → Below A₀ base outer g' → KF.In g' → Top p loose mean mg mb g' → KtsDicts (outer.filterMap (·.frame)) g' →
      wpAny (model prog w) ((A₀.deeper (envOf name scope L a cd)).mark (some (.ref e))) (execs (b₀ :: suite) (envOf name scope L a cd)) Q E { s' with heap := h' })
    (hk : scope.kind = .function := by rfl) (hx : (envOf name scope L a cd).kindOf x = some .globalImplicit := by rfl) (hd : (x == ("__debug__" : Str)) = false := by decide)
    (hE : PassesOwnAt (model prog w) ((A₀.deeper (envOf name scope L a cd)).mark (some (.ref e))) (A₀.deeper (envOf name scope L a cd)) (envOf name scope L a cd) E := by passes_own) :
    wpAny (model prog w) (A₀.deeper (envOf name scope L a cd)) (noteFrame (.ref e) (envOf name scope L a cd))
      (fun _ s₂ => wpAny (model prog w) (A₀.deeper (envOf name scope L a cd)) (setFlight (.ref e) none) (fun _ s₃ =>
        wpAny (model prog w) (A₀.deeper (envOf name scope L a cd)) (handleBy (.ref e) (envOf name scope L a cd) (.ExceptHandler (some (.Name x np)) none (b₀ :: suite) pos :: rest)) Q E s₃) E s₂) E s' := by
  obtain ⟨⟨B, hB, hBG, hl, hfl, hnew⟩, htup⟩ := R
  have hL : B.get? L = none := by
    obtain ⟨_, ⟨L', _, hf, hn', _⟩, _⟩ := hfl.2.2.1
    obtain rfl : L = L' := Option.some.inj hf
    exact hn'
  refine p2_tr (P := fun h' => Heap.HeldW B (envOf name scope L a cd :: outer) e (.ref C) (.ref t) L h' ∧ s'.heap.UpToSlots h') (p2_note _ _) c (fun {Q'} hQ => wpAny_looks_onW (Around.frames_deeper K.stack) rfl hfl fun h' z1 z2 => hQ () h' ⟨z1, z2⟩) fun _ h₄ ⟨hheld₄, hsm₄⟩ c₄ => ?_
  refine p2_tr (P := fun h' => Heap.FlyingW B (envOf name scope L a cd :: outer) e (.ref C) (.ref t) h' ∧ h₄.UpToSlots h') (p2_setFlight _ _) c₄ (fun {Q'} hQ => wpAny_landsW hheld₄ fun h' z1 z2 => hQ () h' ⟨z1, z2⟩) fun _ h₅ ⟨hheld, hsm₅'⟩ c₅ => ?_
  have hsm₅ := hsm₄.trans hsm₅'
  obtain ⟨g₅, T₅, F₅, K₅⟩ := kts_ground K F hBG hheld.1 (hsm.trans hsm₅)
  have X₅ : KF.In g₅ := XB.keeps K₅.stays
  have P₅ : TopRead p loose mg mb g₅ := topRead_of (TB.keeps K₅.stays)
  obtain ⟨ob, hob, hobc⟩ := hheld.there
  obtain ⟨nm, q', N, bs, bm, hdct, sn, sub, ab, col, dd, k0, k1, k2, k3, k5, newId, hC, hbase, hbT⟩ := kts_cls X₅ q
  have hC₅ := F₅.keep _ _ hC
  refine wpAny_handleBy_cons (codeAny_handlers_test (name_K F₅ X₅ P₅ ex ?_ hk hx hd)) (by intro q; cases q)
  refine wpAny_excMatches_sub_self hC₅ hob hobc hbase (codeAny_handlers_suite ?_)
  refine p2_tr (P := fun h' => Heap.FlyingW B (envOf name scope L a cd :: outer) e (.ref C) (.ref t) h' ∧ h₅.UpToSlots h') (p2_setFlight _ _) c₅ (fun {Q'} hQ => lands_againW hheld fun h' z1 z2 => hQ () h' ⟨z1, z2⟩) fun _ h₆ ⟨hfl₆, hsm₆⟩ c₆ => ?_
  obtain ⟨g₆, T₆, F₆, K₆⟩ := kts_ground K F hBG hfl₆.1 ((hsm.trans hsm₅).trans hsm₆)
  obtain ⟨oe, ws, T, oT, ts, hoe, ⟨hoec, hoe0⟩, hoed, hoe1, hnT, hTe, hoT, hoTd, hoT3⟩ := hfl₆.2.2.2
  obtain ⟨ot, nt, hot, hotc, hotd⟩ := (htup.of_slots hsm₅).of_slots hsm₆
  have frh : ∀ (b : Addr) (o : Obj), B.get? b = none → h₆.get? b = some o → (∀ es n', o.data ≠ .dict es n') → g₆.get? b = none := fun b o hb ho hnd => T₆.none_ _ (kts_fresh F hBG hb fun o1 ho1 m => by
    obtain ⟨o', es, n', ho', hd⟩ := D _ m
    rw [ho1] at ho'
    cases ho'
    obtain ⟨sl, hs⟩ := ((hsm.trans hsm₅).trans hsm₆) _ _ (F.keep _ _ ho1) (fun vs q => by rw [hd] at q; cases q)
    rw [ho] at hs
    cases hs
    exact hnd _ _ hd)
  have ne₆ := frh e oe hfl₆.2.1 hoe (fun es n q => by rw [hoed] at q; cases q)
  have nT₆ := frh T oT hnT hoT (fun es n q => by rw [hoTd] at q; cases q)
  have nt₆ := frh t ot hnew hot (fun es n q => by rw [hotd] at q; cases q)
  have Nl : News g₆ L h₆ news := fun q hq => ⟨hfl₆.1 _ _ (hl q hq).1, (fun z => by have := (hl q hq).1; rw [z, hL] at this; cases this), T₆.none_ _ (kts_none F.keep (hl q hq).2.1)⟩
  have N₆ := News.more F₆ (News.more F₆ (News.more F₆ Nl hot (fun es n q => by rw [hotd] at q; cases q) nt₆) hoT (fun es n q => by rw [hoTd] at q; cases q) nT₆) hoe (fun es n q => by rw [hoed] at q; cases q) ne₆
  have X₆ : KF.In g₆ := XB.keeps K₆.stays
  have P₆ : Top p loose mean mg mb g₆ := TB.keeps K₆.stays
  have D₆ : KtsDicts (outer.filterMap (·.frame)) g₆ := D.turn T₆
  have off : ∀ b, B.get? b = none → ∀ q ∈ news, @Ne Nat q.1 b := fun b hb q hq z => by have := (hl q hq).1; rw [z, hb] at this; cases this
  obtain ⟨oe', hoe', h2⟩ := c₆
  rw [hoe] at hoe'
  cases hoe'
  have hw2 : ws[2]? = some .none := by unfold fld2 at h2; rw [hoed] at h2; exact h2
  refine wpAny_passesOwnAt hE (k h₆ g₆ T oe oT ot (T0.trans T₆) F₆ N₆ ⟨hoec, ⟨ws, hoed, hoe0, hoe1, hw2⟩, ⟨ts, hoTd, (Array.getElem?_eq_some_iff.mp hoT3).1⟩, ⟨hotc, nt, hotd⟩, hTe, fun z => ?_, fun z => ?_⟩ (off _ hfl₆.2.1) (off _ hnT) (off _ hnew) K₆ X₆ P₆ D₆)
  · have z : t = e := z
    rw [z, hoe] at hot; cases hot; rw [hoed] at hotd; cases hotd
  · have z : t = T := z
    rw [z, hoT] at hot; cases hot; rw [hoTd] at hotd; cases hotd
end
end Mine
end
section
theorem Mine.freshC4 : True := by
  run_tac (do PyProof.Rows.walkLines.set (0, {}); PyProof.Rows.walkHit.set {}; PyProof.Rows.walkTop.set false; PyProof.Rows.walkStart.set 0; PyProof.Rows.walkLate.set false)
  trivial
open PySem PySem.W PySem.Calls PyProof.Rows PySem.Spec
set_option Elab.async false
set_option maxRecDepth 100000
set_option maxHeartbeats 400000
set_option linter.unusedVariables false
set_option linter.unusedSimpArgs false
namespace Mine
section
variable {prog : Program} {w : World} {A : Around} {E : Value → Shared → Prop} {s : Shared} {env : Env} {h₀ : Heap} {x : Str} {body : List Stmt} {Q : Flow → Shared → Prop}
def RangeRestH (prog : Program) (w : World) (A : Around) (E : Value → Shared → Prop) (h₀ : Heap) (env : Env) (x : Str) (body : List Stmt) (Q : Flow → Shared → Prop) (s : Shared) (ep : Addr × Obj) (I : Addr) (a : Int) (n : Nat) : Nat → Nat → (Str → Option Value) → List (Addr × Obj) → Prop
  | 0, _, m, news => ∀ h tk, Fr h₀ env.locals h m → News h₀ env.locals h news → Q .next { s with heap := h, toks := tk }
  | k + 1, i, m, news => ∀ t h tk, Fr h₀ env.locals h (fun y => if y = x then some (.int (a + (i : Int)) t) else m y) →
      News h₀ env.locals h ((I, itR (a + ((i + 1 : Nat) : Int)) ((n : Int) - ((i + 1 : Nat) : Int))) :: news) →
      wpAny (model prog w) A (execs body env) (UnrPost h₀ env.locals { s with heap := h, toks := tk } I (itR (a + ((i + 1 : Nat) : Int)) ((n : Int) - ((i + 1 : Nat) : Int))) (fun m' n' => ep ∈ n' ∧ RangeRestH prog w A E h₀ env x body Q s ep I a n k (i + 1) m' n') Q) E { s with heap := h, toks := tk }
theorem RangeRestH.zero {ep : Addr × Obj} {I : Addr} {a : Int} {n i : Nat} {m : Str → Option Value} {news : List (Addr × Obj)} (h : ∀ h tk, Fr h₀ env.locals h m → News h₀ env.locals h news → Q .next { s with heap := h, toks := tk }) :
    RangeRestH prog w A E h₀ env x body Q s ep I a n 0 i m news := h
theorem RangeRestH.succ {ep : Addr × Obj} {I : Addr} {a : Int} {n k i : Nat} {m : Str → Option Value} {news : List (Addr × Obj)}
    (h : ∀ t h tk, Fr h₀ env.locals h (fun y => if y = x then some (.int (a + (i : Int)) t) else m y) → News h₀ env.locals h ((I, itR (a + ((i + 1 : Nat) : Int)) ((n : Int) - ((i + 1 : Nat) : Int))) :: news) →
      wpAny (model prog w) A (execs body env) (UnrPost h₀ env.locals { s with heap := h, toks := tk } I (itR (a + ((i + 1 : Nat) : Int)) ((n : Int) - ((i + 1 : Nat) : Int))) (fun m' n' => ep ∈ n' ∧ RangeRestH prog w A E h₀ env x body Q s ep I a n k (i + 1) m' n') Q) E { s with heap := h, toks := tk }) :
    RangeRestH prog w A E h₀ env x body Q s ep I a n (k + 1) i m news := h
theorem iter_rangeH {r e : Addr} {oe : Obj} {a₀ b₀ : Int} {t₀ u₀ v₀ : Tok} {n : Nat} {m₀ : Str → Option Value} {news : List (Addr × Obj)}
    (hh : A.handled = some (.ref e)) (hm : (e, oe) ∈ news) (h2 : fld2 oe = some .none) (hr : IsRange s.heap r a₀ b₀ 1 t₀ u₀ v₀) (hsmall : Builtin.Range.small a₀ b₀ 1 = true) (hn : Builtin.Range.rangeSize a₀ b₀ 1 = (n : Int)) (F : Fr h₀ env.locals s.heap m₀) (N : News h₀ env.locals s.heap news)
    (rest₀ : ∀ I : Addr, (∀ p ∈ news, p.1 < I) → RangeRestH prog w A E h₀ env x body Q s (e, oe) I a₀ n n 0 m₀ news) :
    wpAny (model prog w) A (pyIter (.ref r)) (fun it s₂ => LoopAtV prog w A h₀ env x body Q E it s₂) E s := by
  have hax := N _ hm
  have hlt : e < s.heap.objs.size := Heap.lt_size hax.1
  have hne : e ≠ s.heap.objs.size := Nat.ne_of_lt hlt
  refine wpAny_pyIter_range hr hsmall ?_
  have rest := rest₀ s.heap.objs.size fun p hp => Heap.lt_size (N p hp).1
  have W : Walks prog w A s.heap.objs.size [s.heap.objs.size, e] [s.heap.objs.size] n (fun i v => i < n ∧ ∃ t, v = .int (a₀ + i * 1) t)
      (fun i h => IsRangeIter h s.heap.objs.size (a₀ + (i : Nat) * 1) ((n : Int) - (i : Nat)) 1 ∧ Ctx0 h e) := (walks_rangeH e hh _ hne a₀ 1 n).bound
  have hnew := next_is_new F
  let J : Nat → (Str → Option Value) → List (Addr × Obj) → Prop := fun i m₁ news₁ => (e, oe) ∈ news₁ ∧ RangeRestH prog w A E h₀ env x body Q s (e, oe) s.heap.objs.size a₀ n (n - i) i m₁ news₁
  refine ⟨_, _, _, n, _, _, m₀, news, J, rfl, W, ?_, ?_, ?_, ⟨(by show IsRangeIter _ _ _ _ _; rw [hn]; simpa using Heap.get?_push_size _ rfl), ⟨oe, Heap.get?_push_of_some _ hax.1, h2⟩⟩, F.push _, (fun p hp => ⟨Heap.get?_push_of_some _ (N p hp).1, (N p hp).2⟩), ⟨hm, rest⟩, ?_, ?_⟩
  · intro hmm
    rcases List.mem_cons.mp hmm with q | hmm
    · exact absurd F.ns.lt (q ▸ Nat.lt_irrefl _)
    · exact hax.2.1 (List.mem_singleton.mp hmm).symm
  · intro b hb
    rw [List.mem_singleton.mp hb]
    exact hnew
  · intro p hp hI
    exact absurd (Heap.lt_size (N p hp).1) ((List.mem_singleton.mp hI) ▸ Nat.lt_irrefl _)
  · rintro i v m₁ news₁ s₁ own ⟨hh', tk', rfl⟩ hin ⟨_, t, rfl⟩ ⟨hmem₁, hJ⟩ hoff hown hget hall hst F₁ N₁
    have hst' : hh'.get? s.heap.objs.size = some (itR (a₀ + ((i + 1 : Nat) : Int)) ((n : Int) - ((i + 1 : Nat) : Int))) := by
      have q : IsRangeIter hh' s.heap.objs.size (a₀ + ((i + 1 : Nat) : Int) * 1) ((n : Int) - ((i + 1 : Nat) : Int)) 1 := hst.1
      rw [Int.mul_one] at q
      exact q
    have hmem := hall s.heap.objs.size (List.mem_cons_self ..) hnew _ hst'
    have hkk : n - i = (n - (i + 1)) + 1 := by omega
    have hJ' : RangeRestH prog w A E h₀ env x body Q s (e, oe) s.heap.objs.size a₀ n ((n - (i + 1)) + 1) i m₁ news₁ := by rw [← hkk]; exact hJ
    have e1 : a₀ + (i : Int) * 1 = a₀ + (i : Int) := by rw [Int.mul_one]
    rw [e1] at F₁
    have N₂ : News h₀ env.locals hh' ((s.heap.objs.size, itR (a₀ + ((i + 1 : Nat) : Int)) ((n : Int) - ((i + 1 : Nat) : Int))) :: news₁) := fun p hp => by
      rcases List.mem_cons.mp hp with rfl | hp
      · exact N₁ _ (List.mem_append_left _ hmem)
      · exact N₁ _ (List.mem_append_right _ hp)
    refine wpAny_mono (hJ' t hh' tk' F₁ N₂) (fun f s₂ p => ?_) fun _ _ e => e
    have fin : UnrEnd h₀ env.locals { s with heap := hh', toks := tk' } s.heap.objs.size (itR (a₀ + ((i + 1 : Nat) : Int)) ((n : Int) - ((i + 1 : Nat) : Int))) (fun m' n' => (e, oe) ∈ n' ∧ RangeRestH prog w A E h₀ env x body Q s (e, oe) s.heap.objs.size a₀ n (n - (i + 1)) (i + 1) m' n') s₂ →
        LoopStepU h₀ env.locals [s.heap.objs.size] own (J (i + 1)) { s with heap := hh', toks := tk' } .next s₂ := by
      rintro ⟨h', tk, m', news', e', F', N', ho, hmm, r⟩
      refine ⟨rfl, h', tk, m', news', e', F', fun p hp => ?_, fun p hp hI => ho p hp (List.mem_singleton.mp hI), hmm, r⟩
      rcases List.mem_append.mp hp with hp | hp
      · have h2 : hh'.get? p.1 = some p.2 := hget p hp
        rcases List.mem_cons.mp (hown p hp) with h1 | h1
        · have h3 : p = (s.heap.objs.size, itR (a₀ + ((i + 1 : Nat) : Int)) ((n : Int) - ((i + 1 : Nat) : Int))) := by
            rw [h1, hst'] at h2
            exact Prod.ext h1 (Option.some.inj h2).symm
          rw [h3]; exact N' _ (List.mem_cons_self ..)
        · have h1' : p.1 = e := List.mem_singleton.mp h1
          have h3 : p = (e, oe) := by
            rw [h1', (N₁ _ (List.mem_append_right _ hmem₁)).1] at h2
            exact Prod.ext h1' (Option.some.inj h2).symm
          rw [h3]; exact N' _ (List.mem_cons_of_mem _ hmm)
      · exact N' _ (List.mem_cons_of_mem _ hp)
    cases f with
    | ret v => exact .ret p
    | brk => exact .brk p
    | next => exact .next (fin p)
    | cont => exact .cont (fin p)
  · rintro h' tk m' news' F' N' _ ⟨_, hJ⟩
    have hJ' : RangeRestH prog w A E h₀ env x body Q s (e, oe) s.heap.objs.size a₀ n 0 n m' news' := by
      have z : n - n = 0 := Nat.sub_self n
      have q : RangeRestH prog w A E h₀ env x body Q s (e, oe) s.heap.objs.size a₀ n (n - n) n m' news' := hJ
      rw [z] at q; exact q
    exact hJ' h' tk F' N'
end
section
variable {M : Model} {A : Around} {E : Value → Shared → Prop} {s' : Shared} {base g : Heap} {outer : List Env} {L a e T t : Addr} {m : Str → Option Value} {name : Str} {scope : Scope} {cd : Value} {news : List (Addr × Obj)} {oe oT ot : Obj} {cls : Value} {vs : List Value}
theorem bare_raise {env : Env} {pos : Pos} {Q : Flow → Shared → Prop} (hh : A.handled = some (.ref e)) (hf : env.frame = some L) (F : Fr g L s'.heap m) (N : News g L s'.heap news) (x : Exc0 e T t cls vs oe oT ot) (me : (e, oe) ∈ news) (mT : (T, oT) ∈ news) {gg : Obj → List (Addr × Obj)} (U : UpdF T oT news gg)
    (h : ∀ h', Fr g L h' m → News g L h' (gg (Obj.mapFields (·.setIfInBounds 3 (rawInt L)) oT)) → E (.ref e) { s' with heap := h' }) : wpAny M A (exec (.Raise none none pos) env) Q E s' := by
  obtain ⟨ws, hd, h0, h1, h2⟩ := x.dat
  obtain ⟨ts, hTd, h3⟩ := x.tb
  rw [arm_exec_Raise]
  refine wpAny_bind (wpAny_standAt ?_)
  show wpAny M A (raiseStmt env none none) Q E s'
  unfold raiseStmt
  dsimp only
  refine wpAny_bind (wpAny_handled ?_)
  rw [hh]
  dsimp only
  refine wpAny_bind (wpAny_rule ?_)
  refine wpAny_bind (wpAny_field (N _ me).1 hd h1 ?_)
  rw [if_neg (by simp)]
  refine wpAny_bind ?_
  unfold setFlight
  refine wpAny_bind (wpAny_field (N _ me).1 hd h1 ?_)
  rw [if_pos (show (Value.ref T != Value.none) = true from by simp), hf]
  refine wpAny_setField (N _ mT).1 hTd h3 (wpAny_throw ?_)
  have sb := Heap.SameBut.update s'.heap T (Obj.mapFields (·.setIfInBounds 3 (rawInt L)))
  refine h _ (F.change sb (N _ mT).2.1 (N _ mT).2.2) ?_
  obtain ⟨pre, post, rfl, hg, p1, p2⟩ := U.split
  rw [hg]
  intro q hq
  rcases List.mem_append.mp hq with hq | hq
  · exact ⟨(sb.2 _ (p1 q hq)).trans (N q (List.mem_append_left _ hq)).1, (N q (List.mem_append_left _ hq)).2⟩
  · rcases List.mem_cons.mp hq with rfl | hq
    · exact ⟨Heap.get?_update_self _ (N _ mT).1 (Obj.isFreed_of_fields (Obj.data_mapFields hTd _)), (N _ mT).2⟩
    · exact ⟨(sb.2 _ (p2 q hq)).trans (N q (List.mem_append_right _ (.tail _ hq))).1, (N q (List.mem_append_right _ (.tail _ hq))).2⟩
theorem leave_heldS {Q : Unit → Shared → Prop} {all : List (Addr × Obj)} {g₀ : Heap} (K : Below A base outer g) (TT : KtsTurn (outer.filterMap (·.frame)) g₀ g) (F : Fr g L s'.heap m) (N : News g L s'.heap all) (x : Exc0 e T t cls vs oe oT ot) (me : (e, oe) ∈ all) (mT : (T, Obj.mapFields (·.setIfInBounds 3 (rawInt L)) oT) ∈ all) (mt : (t, ot) ∈ all)
    (hs : ∀ q ∈ news, q ∈ all) (n1 : ∀ q ∈ news, @Ne Nat q.1 e) (n2 : ∀ q ∈ news, @Ne Nat q.1 T) (n3 : ∀ q ∈ news, @Ne Nat q.1 t)
    (hQ : ∀ h', RaisedS base g₀ outer e cls t vs news h' → RaisedK base outer e cls t vs news h' → g₀.UpToSlots h' → Q () { s' with heap := h' }) (hk : scope.kind = .function := by rfl) :
    wpAny M (A.deeper (envOf name scope L a cd)) («leaving» (envOf name scope L a cd) (.ref e)) Q E s' := by
  have up0 : g₀.UpToSlots g := fun b o hb _ => TT.up hb
  obtain ⟨ws, hd, h0, h1, h2⟩ := x.dat
  obtain ⟨ts, hTd, h3⟩ := x.tb
  have K' := K.push (name := name) (a := a) (cd := cd) F hk
  let fs : List Addr := e :: T :: t :: (envOf name scope L a cd :: outer).filterMap (·.frame)
  have hin : ∀ env ∈ (envOf name scope L a cd :: outer), ∀ b, env.frame = some b → b ∈ fs := fun env he b hb => .tail _ (.tail _ (.tail _ (List.mem_filterMap.mpr ⟨env, he, hb⟩)))
  have gnone : ∀ b, b = e ∨ b = T ∨ b = t → g.get? b = none := fun b hb => by
    rcases hb with rfl | rfl | rfl
    · exact (N _ me).2.2
    · exact (N _ mT).2.2
    · exact (N _ mt).2.2
  have split : ∀ b, b ∈ fs → (b = e ∨ b = T ∨ b = t) ∨ b ∈ (envOf name scope L a cd :: outer).filterMap (·.frame) := fun b hb => by
    rcases List.mem_cons.mp hb with q | hb
    · exact .inl (.inl q)
    rcases List.mem_cons.mp hb with q | hb
    · exact .inl (.inr (.inl q))
    rcases List.mem_cons.mp hb with q | hb
    · exact .inl (.inr (.inr q))
    · exact .inr hb
  have st : base.StaysIn (hideAll s'.heap fs) := fun b o q => hideAll_get _ (K'.stays b o q) fun hm => by
    rcases split b hm with z | z
    · have := K.stays b o q
      rw [gnone b z] at this; cases this
    · rw [(K'.frames.mem z).1] at q; cases q
  have sg : ∀ b o, g.get? b = some o → b ∉ outer.filterMap (·.frame) → (hideAll s'.heap fs).get? b = some o := fun b o q nm => hideAll_get _ (F.keep b o q) fun hm => by
    rcases split b hm with z | z
    · rw [gnone b z] at q; cases q
    rcases kts_mem z with z | z
    · rw [z, kts_self F] at q
      cases q
    · exact nm z
  have hl : ∀ q ∈ news, (hideAll s'.heap fs).get? q.1 = some q.2 ∧ g.get? q.1 = none ∧ base.get? q.1 = none := fun q hq => by
    refine ⟨hideAll_get _ (N q (hs q hq)).1 fun hm => ?_, (N q (hs q hq)).2.2, fresh_of_stays K.stays (N q (hs q hq)).2.2⟩
    rcases split _ hm with z | z
    · rcases z with z | z | z
      · exact n1 q hq z
      · exact n2 q hq z
      · exact n3 q hq z
    obtain ⟨env, he, hf⟩ := List.mem_filterMap.mp z
    rcases List.mem_cons.mp he with rfl | he
    · exact (N q (hs q hq)).2.1 (Option.some.inj hf).symm
    · obtain ⟨o, ho, _⟩ := (K.frames.mem (List.mem_filterMap.mpr ⟨env, he, hf⟩)).2
      rw [(N q (hs q hq)).2.2] at ho; cases ho
  have hT2 := Obj.data_mapFields hTd (·.setIfInBounds 3 (rawInt L))
  have held : Heap.HeldW (hideAll s'.heap fs) (envOf name scope L a cd :: outer) e cls (.ref t) L s'.heap :=
    ⟨fun b o q => of_hideAll _ q, hideAll_none _ (.head _), funFrames_hide K'.frames hin, oe, ws, T, _, _, (N _ me).1, ⟨x.cls, h0⟩, hd, h1, hideAll_none _ (.tail _ (.head _)), x.n1, (N _ mT).1, hT2, by simp [h3]⟩
  unfold «leaving»
  refine wpAny_bind (wpAny_noteFrame_againW rfl held.2.2.2 ?_)
  refine wpAny_landsW held fun h' hfl up => ?_
  obtain ⟨k1, k2, ⟨_, _, k3⟩, k4⟩ := hfl
  obtain ⟨ha, nt, hta⟩ := x.args
  have nn : ∀ b, g.get? b = none → g₀.get? b = none := fun b hb => by
    cases q : g₀.get? b with
    | none => rfl
    | some o => obtain ⟨sl, hs⟩ := TT.up q; rw [hb] at hs; cases hs
  have R : RaisedS base g₀ outer e cls t vs news h' := ⟨⟨_, st, fun b o q nm => sg b o (TT.other b o q nm) nm, fun q hq => ⟨(hl q hq).1, nn _ (hl q hq).2.1, (hl q hq).2.2⟩, ⟨k1, k2, k3, k4⟩, hideAll_none _ (.tail _ (.tail _ (.head _)))⟩, Heap.TupAt.of_slots ⟨ot, nt, (N _ mt).1, ha, hta⟩ up⟩
  exact hQ h' R R.toK ((up0.trans (Heap.UpToSlots.of_keeps F.keep)).trans up)
end
end Mine
end
section
theorem Mine.freshM1 : True := by
  run_tac (do PyProof.Rows.walkLines.set (0, {}); PyProof.Rows.walkHit.set {}; PyProof.Rows.walkTop.set false; PyProof.Rows.walkStart.set 0; PyProof.Rows.walkLate.set false)
  trivial
open PySem PySem.W PyProof.Rows
set_option Elab.async false
set_option maxRecDepth 100000
set_option maxHeartbeats 0
namespace Mine
open Lean Lean.Meta Lean.Elab Lean.Elab.Tactic
def onward (p : Program) (w : World) (n : Nat) (s : Shared) (t : Thread) : Option (Shared × Thread) := Id.run do
  let mut s := s
  let mut t := t
  for _ in [0:n] do
    match step (denote table) p w s t with
    | .go s' t' => s := s'; t := t'
    | .halt _ _ => return none
  return some (s, t)
def lawFrame : Frame := .ret leafOf none false [] (.builtin "claim.caller" {}) default []
def lawCode (n : Addr) : Code := .call (.ref 1661) ⟨[.ref n], []⟩
def lawT0 : Thread := ⟨denote treeTable (lawCode 1662), lawCode 1662, default, [lawFrame]⟩
noncomputable def lawEnv : Env := envOfC (Str.ofString "law") lawScope 1663 1661 (.ref 1660)
noncomputable def lawRest : List Stmt := [lawFor, lawFor2, lawRet]
noncomputable def lawPos1 : Pos := ⟨1171, 26, 1171, 31⟩
noncomputable def lawCur1 : Sem Fin := do match ← (execs lawRest lawEnv).onRaise («leaving» lawEnv) with | .ret v => ret v | _ => ret .none
noncomputable def lawT1 : Thread := ⟨lawCur1, .func lawBody lawEnv, lawPos1, [lawFrame]⟩
def listObj (it : Array Value) : Obj := { cls := .type "list", data := .seq it }
def overT (base : Nat) (T : Lean.Expr) (e : Lean.Expr) : Lean.Expr := e.replace fun x =>
  if x.isAppOfArity ``OfNat.ofNat 3 then match x.getAppArgs[1]! with
    | .lit (.natVal v) => if v ≥ base then some (mkApp2 (mkConst ``Nat.add) T (mkRawNatLit (v - base))) else none
    | _ => none
  else match x with
    | .lit (.natVal v) => if v ≥ base then some (mkApp2 (mkConst ``Nat.add) T (mkRawNatLit (v - base))) else none
    | _ => none
inductive How where | old | new | list
structure LCell where
  a : Obj
  b : Obj
  c : Lean.Expr
  how : How
structure LSpot where
  cells : Array LCell
  tree : Lean.Expr
  n : Nat
  d : Nat
def tNat := mkConst ``Nat
def tIt := mkApp (mkConst ``Array [0]) (mkConst ``Value)
def LSpot.at (life gens drawn : Lean.Expr) (x : LSpot) (w os T it : Lean.Expr) : Lean.Expr :=
  mkAppN (mkConst ``SharedT.mk) #[mkApp3 x.tree (mkApp (mkConst ``World.params) w) T it, mkRawNatLit x.n, life, gens, drawn, mkApp2 (mkConst ``Nat.add) T (mkRawNatLit x.d), os]
def base : Nat := 1000000000
def lSpotOf (nl : Nat) (old : Array LCell) (s s' : Shared) : MetaM LSpot := do
  unless s.heap.objs.size == s'.heap.objs.size && s.toks == s'.toks do throwError "the worlds part"
  let mut out : Array LCell := #[]
  for i in [0:s.heap.objs.size] do
    let (o, o') := (s.heap.objs[i]!, s'.heap.objs[i]!)
    let kept := match old[i]? with
      | some x => if (sameObjNow x.a o && sameObjNow x.b o') || i == nl then some x else none
      | none => none
    match kept with
    | some x => out := out.push { x with a := o, b := o' }
    | none =>
      let v ← withLocalDeclD `P (mkConst ``Params) fun q => withLocalDeclD `T tNat fun T => do
        let e := overT base T (objE q o)
        unless e == overT base T (objE q o') do throwError "an object is the world's: {i}"
        mkLambdaFVars #[q, T] (← swift e)
      let c ← defAt `l (← mkArrow (mkConst ``Params) (← mkArrow tNat (mkConst ``Obj))) v
      Fast.primed.modify (·.insert c.getAppFn.constName! none)
      out := out.push ⟨o, o', c, .new⟩
  let v ← withLocalDeclD `P (mkConst ``Params) fun q => withLocalDeclD `T tNat fun T => withLocalDeclD `it tIt fun it => do
    let os := out.map fun x => match x.how with | .old => mkApp x.c q | .new => mkApp2 x.c q T | .list => mkApp x.c it
    let rec tr (fuel a b : Nat) : Lean.Expr := match fuel, os[b]? with
      | f + 1, some o => mkApp3 (mkConst ``BT.node) o (tr f (2 * a) (a + b)) (tr f (2 * a) (2 * a + b))
      | _, _ => mkConst ``BT.nil
    mkLambdaFVars #[q, T, it] (tr 60 1 0)
  let t ← defAt `ltree (← mkArrow (mkConst ``Params) (← mkArrow tNat (← mkArrow tIt (mkConst ``BT)))) v
  Fast.primed.modify (·.insert t.getAppFn.constName! none)
  return { cells := out, tree := t, n := s.heap.objs.size, d := s.toks - base }
theorem go_go {tb : String → Option Builtin} {p : Program} {w : World} {n₀ : Nat} {ann : Option Value} {b : Nat} : ∀ {n N : Nat} {s s' : PySem.Shared} {t t' : Thread} {r : PySem.Shared × Thread}, segGo tb p w n₀ ann b n s t = some (s', t') →
    segGo tb p w n₀ ann b N s' t' = some r → segGo tb p w n₀ ann b (n + N) s t = some r
  | 0, N, s, s', t, t', r, h, k => by
    obtain ⟨rfl, rfl⟩ : s = s' ∧ t = t' := by simpa [segGo] using h
    rw [Nat.zero_add]; exact k
  | n + 1, N, s, s', t, t', r, h, k => by
    rw [show n + 1 + N = n + N + 1 by omega]
    unfold segGo at h ⊢
    cases he : endAt b t with
    | some f => rw [he] at h; cases h
    | none =>
      rw [he] at h
      cases hk : stepOk n₀ ann t with
      | false => rw [hk] at h; cases h
      | true =>
        rw [hk] at h
        cases hs : step (denote tb) p w s t with
        | halt o s₂ => rw [hs] at h; cases h
        | go s₂ t₂ => rw [hs] at h; exact go_go h k
def genLaw (N : Nat) : TermElabM Unit := do
  let some e := (topsExt.getState (← getEnv))[0]? | throwError "no top"
  for n in e.sK.objs do Fast.primed.modify (·.insert n none)
  Fast.primed.modify (·.insert e.sK.tree none)
  for n in [``listObj] do Fast.primed.modify (·.insert n none)
  let p := PySem.Challenge.pw_ae5031_04
  let (t, t') ← match ← traceTop p 40000 1, ← traceTop p 40000 2 with
    | .ok t, .ok t' => pure (t, t')
    | .error m, _ | _, .error m => throwError "{m}"
  let nl := t.fin.s.heap.objs.size
  let lay (s : Shared) : Shared := { s with toks := base, heap := s.heap.push { cls := .type "list", data := .seq #[] } }
  let (s, s') := (lay t.fin.s, lay t'.fin.s)
  let cells0 : Array LCell := (Array.range nl).map (fun i => ⟨s.heap.objs[i]!, s'.heap.objs[i]!, mkConst e.sK.objs[i]!, .old⟩) |>.push ⟨s.heap.objs[nl]!, s'.heap.objs[nl]!, mkConst ``listObj, .list⟩
  unless e.sK.objs.size == nl do throwError "objects"
  let S0 ← lSpotOf nl cells0 s s'
  let th : Thread := ⟨denote table (lawCode nl), lawCode nl, default, [lawFrame]⟩
  let (cuts, rows) ← cutsNow p 1 400 N s th
  let (cuts', rows') ← cutsNow p 2 400 N s' th
  unless cuts.size == cuts'.size do throwError "the worlds part"
  let some (sE, tE) := onward p (← fixWorld 1 true) N s th | throwError "halt"
  let some (sE', _) := onward p (← fixWorld 2 false) N s' th | throwError "halt"
  say s!"law: nl {nl} cuts {cuts.size} end {sE.heap.objs.size} toks {sE.toks - base} {atWord tE} stack {tE.stack.length}"
  let W := mkConst ``World
  let at_ (S : LSpot) (w os T it : Lean.Expr) := S.at e.sK.life e.sK.gens e.sK.drawn w os T it
  let tb := mkConst ``treeTable
  let m0 := mkRawNatLit (nl + 1)
  let annE := mkApp (mkConst ``Option.none [0]) (mkConst ``Value)
  let rst (n : Nat) (f : Name) (w p s th : Lean.Expr) := mkAppN (mkConst f) #[tb, p, w, m0, annE, mkRawNatLit 1, mkRawNatLit n, s, th]
  let withAll {α : Type} (k : Lean.Expr → Lean.Expr → Lean.Expr → Lean.Expr → Lean.Expr → MetaM α) : MetaM α :=
    withLocalDeclD `w W fun w => withLocalDeclD `p (mkConst ``Program) fun p => withLocalDeclD `os (mkConst ``OsState) fun os => withLocalDeclD `T tNat fun T => withLocalDeclD `it tIt fun it => k w p os T it
  let mut S := S0
  let mut thr : Lean.Expr → Lean.Expr → Lean.Expr → Lean.Expr → Lean.Expr → Lean.Expr := fun _ _ _ _ _ => mkConst ``lawT0
  let mut left := N
  let mut parts : Array (Nat × LSpot × (Lean.Expr → Lean.Expr → Lean.Expr → Lean.Expr → Lean.Expr → Lean.Expr) × LSpot × (Lean.Expr → Lean.Expr → Lean.Expr → Lean.Expr → Lean.Expr → Lean.Expr) × Lean.Expr) := #[]
  let all := (cuts.zip cuts').map (fun ((c, s, r), (_, s', r')) => (c, s, s', (r ++ r').eraseDups))
  let lastC := N - (all.map (·.1)).foldl (· + ·) 0
  let all := all.push (lastC, sE, sE', (rows ++ rows').eraseDups)
  for (c, sj, sj', asked) in all do
    let tm0 ← IO.monoMsNow
    let Sn ← lSpotOf nl S.cells sj sj'
    let (Sp, tp) := (S, thr)
    let last := parts.size + 1 == all.size
    let thrE ← withAll fun w p os T it => do
      if last then return ← mkLambdaFVars #[w, p, os, T, it] (mkConst ``lawT1)
      let Wf := asked.foldl (fun w r => mkApp3 (mkConst ``World.withFollow) w (mkStrLit r) (mkConst ``Bool.false)) w
      let r ← whnfQuick (rst c ``segGoT Wf p (at_ Sp Wf os T it) (tp Wf p os T it))
      unless r.isAppOfArity ``Option.some 2 do throwError "a cut: no state"
      let r2 ← Dig.kw r.appArg!
      unless r2.isAppOfArity ``Prod.mk 4 do throwError "a cut: no pair"
      let t2 := r2.appArg!
      mkLambdaFVars #[w, p, os, T, it] (if Wf == w then t2 else t2.replace fun x => if x == Wf then some w else none)
    let thrC ← if last then pure (mkConst ``lawT1) else defAt `lthread (← inferType thrE) thrE
    unless last do Fast.primed.modify (·.insert thrC.getAppFn.constName! none)
    let tn (w p os T it : Lean.Expr) : Lean.Expr := if last then mkConst ``lawT1 else mkAppN thrC #[w, p, os, T, it]
    let P ← withAll fun w p os T it => do
      let x := rst c ``segGoT w p (at_ Sp w os T it) (tp w p os T it)
      let y ← mkAppM ``some #[← mkAppM ``Prod.mk #[at_ Sn w os T it, tn w p os T it]]
      mkLambdaFVars #[w] (← mkEq (← mkLambdaFVars #[p, os, T, it] x) (← mkLambdaFVars #[p, os, T, it] y))
    let l ← byKernelQuick P asked
    let tm1 ← IO.monoMsNow
    say s!"law: {c} steps, objs {Sn.n}, rows {asked}: {tm1 - tm0}"
    parts := parts.push (c, Sp, tp, Sn, tn, l)
    S := Sn
    thr := tn
    left := left - c
  let (Sl, tl) := (S, thr)
  let abs (S : LSpot) (w os T it : Lean.Expr) := mkApp (mkConst ``SharedT.abs) (at_ S w os T it)
  let (ty, pf) ← withAll fun w p os T it => do
    let r ← mkAppM ``Prod.mk #[abs Sl w os T it, tl w p os T it]
    let mut k ← mkEqRefl (rst 0 ``segGo w p (abs Sl w os T it) (tl w p os T it))
    k ← mkExpectedTypeHint k (← mkEq (rst 0 ``segGo w p (abs Sl w os T it) (tl w p os T it)) (← mkAppM ``some #[r]))
    let mut M := mkRawNatLit 0
    for (c, Sp, tp, Sn, tn, l) in parts.toList.reverse do
      let mut a ← mkAppM ``congrFun #[mkApp l w, p]
      for x in [os, T, it] do a ← mkAppM ``congrFun #[a, x]
      let g := mkAppN (mkConst ``segGo_of) #[tb, p, w, m0, annE, mkRawNatLit 1, mkRawNatLit c, at_ Sp w os T it, at_ Sn w os T it, tp w p os T it, tn w p os T it, a]
      k := mkAppN (mkConst ``go_go) #[tb, p, w, m0, annE, mkRawNatLit 1, mkRawNatLit c, M, abs Sp w os T it, abs Sn w os T it, tp w p os T it, tn w p os T it, r, g, k]
      M := mkApp2 (mkConst ``Nat.add) (mkRawNatLit c) M
    let want ← mkEq (mkAppN (mkConst ``segGo) #[tb, p, w, m0, annE, mkRawNatLit 1, M, abs S0 w os T it, mkConst ``lawT0]) (← mkAppM ``some #[r])
    pure (← mkForallFVars #[w, p, os, T, it] want, ← mkLambdaFVars #[w, p, os, T, it] k)
  addDecl (.thmDecl { name := `Mine.lawGo, levelParams := [], type := ty, value := pf })
  let putDef (nm : Name) (v : Lean.Expr) : TermElabM Unit := do addDecl (.defnDecl { name := nm, levelParams := [], type := ← inferType v, value := v, hints := .abbrev, safety := .safe })
  putDef `Mine.lawTree0 S0.tree
  putDef `Mine.lawTree1 Sl.tree
  let lastT ← withAll fun w p os T it => mkLambdaFVars #[w, p, os, T, it] (tl w p os T it)
  putDef `Mine.lawThread lastT
  putDef `Mine.lawSize (mkRawNatLit Sl.n)
  putDef `Mine.lawToks (mkRawNatLit Sl.d)
theorem joined1 : True := by
  run_tac joinTop
  trivial
theorem lawWritten : True := by
  run_tac (do Term.withDeclName `Mine.lawWritten (genLaw 3565))
  trivial
end Mine
end
section
theorem Mine.freshM2 : True := by
  run_tac (do PyProof.Rows.walkLines.set (0, {}); PyProof.Rows.walkHit.set {}; PyProof.Rows.walkTop.set false; PyProof.Rows.walkStart.set 0; PyProof.Rows.walkLate.set false)
  trivial
open PySem PySem.W PySem.Calls PyProof.Rows
set_option Elab.async false
set_option maxRecDepth 100000
namespace Mine
theorem go_back {p : Program} {w : World} {n₀ b : Nat} {ann : Option Value} : ∀ {n : Nat} {s s' : Shared} {t t' : Thread}, segGo table p w n₀ ann b n s t = some (s', t') →
    ∀ (σ : Shared) (τ : Thread), σ.forget = s.forget → τ.forget = t.forget → ∃ (σ' : Shared) (τ' : Thread), σ'.forget = s'.forget ∧ τ'.forget = t'.forget ∧
      ∀ s₂ e, Reach (model p w) [] σ' τ'.cur τ'.code τ'.pos τ'.stack s₂ e → Reach (model p w) [] σ τ.cur τ.code τ.pos τ.stack s₂ e
  | 0, s, s', t, t', h, σ, τ, hs, ht => by
    obtain ⟨rfl, rfl⟩ : s = s' ∧ t = t' := by simpa [segGo] using h
    exact ⟨σ, τ, hs, ht, fun _ _ r => r⟩
  | n + 1, s, s', t, t', h, σ, τ, hs, ht => by
    unfold segGo at h
    cases he : endAt b t with
    | some f => rw [he] at h; cases h
    | none =>
      rw [he] at h
      cases hk : stepOk n₀ ann t with
      | false => rw [hk] at h; cases h
      | true =>
        rw [hk] at h
        cases hst : step (denote table) p w s t with
        | halt o s₂ => rw [hst] at h; cases h
        | go s₁ t₁ =>
          rw [hst] at h
          have hc : t.calm = true := (Bool.and_eq_true_iff.mp hk).1
          have hl : τ.loud = false := by
            have hq : τ.calm = true := by rw [← Thread.calm_forget, ht, Thread.calm_forget]; exact hc
            rw [Thread.calm_eq] at hq
            cases hz : τ.loud with
            | false => rfl
            | true => rw [hz] at hq; cases hq
          have hm : (stepK (denote table) p w σ τ).forget = (Step.go s₁ t₁).forget := by
            rw [stepK_forget, step_same _ _ _ hs ht, hst]
          cases hk2 : stepK (denote table) p w σ τ with
          | halt o x => rw [hk2] at hm; cases hm
          | go σ₁ τ₁ =>
            rw [hk2] at hm
            obtain ⟨e1, e2⟩ := Step.go.inj hm
            obtain ⟨σ', τ', f1, f2, f3⟩ := go_back h σ₁ τ₁ e1 e2
            refine ⟨σ', τ', f1, f2, fun s₂ e r => .step (pre₁ := τ₁.stack) ?_ (f3 s₂ e r)⟩
            show stepI (denote table) p w σ ⟨τ.cur, τ.code, τ.pos, τ.stack ++ []⟩ = .go σ₁ ⟨τ₁.cur, τ₁.code, τ₁.pos, τ₁.stack ++ []⟩
            rw [List.append_nil, List.append_nil]
            exact (stepI_quiet _ _ _ hl).trans hk2
theorem go_keep {tb : String → Option Builtin} {p : Program} {w : World} {n₀ b : Nat} {ann : Option Value} : ∀ {n : Nat} {s s' : Shared} {t t' : Thread}, segGo tb p w n₀ ann b n s t = some (s', t') →
    ∀ a o, a < n₀ → a ≠ mainNs → a ≠ cStatics → ann ≠ some (.ref a) → s.heap.get? a = some o → s'.heap.get? a = some o
  | 0, s, s', t, t', h, a, o, _, _, _, _, e => by
    obtain ⟨rfl, rfl⟩ : s = s' ∧ t = t' := by simpa [segGo] using h
    exact e
  | n + 1, s, s', t, t', h, b', o, h1, h2, h3, h4, h5 => by
    unfold segGo at h
    cases he : endAt b t with
    | some f => rw [he] at h; cases h
    | none =>
      rw [he] at h
      cases hk : stepOk n₀ ann t with
      | false => rw [hk] at h; cases h
      | true =>
        rw [hk] at h
        cases hst : step (denote tb) p w s t with
        | halt o s₂ => rw [hst] at h; cases h
        | go s₁ t₁ =>
          rw [hst] at h
          refine go_keep h b' o h1 h2 h3 h4 ?_
          have hk2 := (Bool.and_eq_true_iff.mp hk).2
          rw [step_heap (denote tb) p w s s₁ t t₁ hst]
          revert hk2
          cases t.cur <;> intro hk2 <;> try exact h5
          case update a _ f _ =>
            have : b' ≠ a := by
              rintro rfl
              simp only [Bool.or_eq_true, Nat.ble_eq, beq_iff_eq] at hk2
              rcases hk2 with ((q | q) | q) | q
              · exact absurd h1 (Nat.not_lt.mpr q)
              · exact h2 q
              · exact h3 q
              · exact h4 q
            exact (Heap.get?_update_ne _ _ _ _ this).trans h5
          case alloc x _ => exact Heap.get?_push_of_some x h5
theorem frame_back {st : List Frame} (h : forgetAll st = forgetAll [lawFrame]) : ∃ kept, st = [.ret leafOf none false [] (.builtin "claim.caller" {}) default kept] := by
  cases st with
  | nil => cases h
  | cons f r =>
    cases r with
    | cons _ _ => exact absurd (congrArg List.length h) (by rw [forgetAll_cons, forgetAll_cons]; simp [forgetAll_cons])
    | nil =>
      have h := (List.cons.inj (h : [f.forget] = [lawFrame.forget])).1
      cases f with
      | gen => cases h
      | ret k hh g l c p kept =>
        obtain ⟨rfl, rfl, rfl, rfl, rfl, rfl, _⟩ := Frame.ret.inj (h : Frame.ret k hh g l c p [] = Frame.ret leafOf none false [] (.builtin "claim.caller" {}) default [])
        exact ⟨kept, rfl⟩
theorem law_runs {p : Program} {w : World} {n₀ n : Nat} {ann : Option Value} {s s' : Shared} {c c' : Code} {cur cur' : Sem Fin} {pos pos' : Pos}
    (h : segGo table p w n₀ ann 1 n s ⟨cur, c, pos, [lawFrame]⟩ = some (s', ⟨cur', c', pos', [lawFrame]⟩)) (hg : s'.gens = #[]) {r : Result} {s₂ : Shared}
    (k : Runs (model p w) (Ctx.of c' [lawFrame]) pos' cur' [] s' (.ret r) s₂) : Runs (model p w) (Ctx.of c [lawFrame]) pos cur [] s (.ret r) s₂ := by
  obtain ⟨σ', ⟨cu, co, po, st⟩, e1, e2, f⟩ := go_back h s _ rfl rfl
  obtain rfl := Shared.eq_of_forget_eq e1 hg
  simp only [Thread.forget, Thread.mk.injEq] at e2
  obtain ⟨rfl, rfl, rfl, e2⟩ := e2
  obtain ⟨kept, rfl⟩ := frame_back e2
  have R1 : Runs (model p w) (Ctx.of co []) po cu [.ret leafOf none false [] (.builtin "claim.caller" {}) default kept] σ' (.ret r) s₂ :=
    .segRet (s₁ := s₂) (r := r) k (Runs.leaf r)
  have R2 := runs_iff_reach.mpr (f _ _ (runs_iff_reach.mp R1))
  unfold lawFrame at R2
  cases R2 with
  | segRet a b =>
    rename_i r' s₃
    cases r' with
    | ok x => cases b; exact a
    | error x => cases b; exact a
  | segSuspGen a => cases a
theorem law_wpCode {p : Program} {w : World} {n₀ n : Nat} {ann : Option Value} {s s' : Shared} {c c' : Code} {cur' : Sem Fin} {pos pos' : Pos} {R : Result → Shared → Prop}
    (h : segGo table p w n₀ ann 1 n s ⟨denote table c, c, pos, [lawFrame]⟩ = some (s', ⟨cur', c', pos', [lawFrame]⟩)) (hg : s'.gens = #[])
    (k : Sem.wp (model p w) (Ctx.of c' [lawFrame]) cur' (Sem.finPost (model p w) (Ctx.of c' [lawFrame]) R) (fun e _ s' => R (.error e) s') pos' s') : wpCode (model p w) (Ctx.of c [lawFrame]) R pos s := by
  obtain ⟨r, s₂, h1, h2⟩ := (Sem.wp_iff_runs (model p w) (Ctx.of c' [lawFrame]) cur' R pos' s').mp k
  exact ⟨r, s₂, law_runs h hg h1, h2⟩
end Mine
end
section
theorem Mine.freshM3 : True := by
  run_tac (do PyProof.Rows.walkLines.set (0, {}); PyProof.Rows.walkHit.set {}; PyProof.Rows.walkTop.set false; PyProof.Rows.walkStart.set 0; PyProof.Rows.walkLate.set false)
  trivial
open PySem PySem.W PySem.Calls PyProof.Rows
set_option Elab.async false
set_option maxRecDepth 100000
namespace Mine
abbrev ctx0 : Ctx := ⟨.builtin "claim.caller" {}, none, none, [], none⟩
abbrev lawTree (name : Str) (vs : List Value) : Sem Fin := do match ← nsGet mainNs name with
  | some f => do ret (← PySem.call f vs)
  | none => unsupported "claim.caller:no-such-global"
theorem ends_wp {prog : Program} {w : World} {t : Sem Fin} {s : Shared} {R : Result → Shared → Prop} (hz : s.asleep)
    (h : Sem.wp (model prog w) ctx0 t (fun fin _ s' => ∃ f, fin = .done f ∧ (R (.ok f) s' ∧ leftWithCleanup s'.gens = false)) (fun e _ s' => R (.error e) s' ∧ leftWithCleanup s'.gens = false) default s) :
    ∃ n r s' s'', runN (denote table) prog w n s ⟨t, .builtin "claim.caller" {}, default, []⟩ = .halted (outcomeOf r) s' ∧
      schedN (denote table) prog w n (.single s ⟨t, .builtin "claim.caller" {}, default, []⟩) = .halted (outcomeOf r) s' ∧ s'.forget = s''.forget ∧ R r s'' := by
  obtain ⟨n, r, s₁, s₂, hs, hn, hfo, hR⟩ := wp_halts_full (M := model prog w) (R := R) hz
    (Sem.wp_mono _ _ _ (fun fin p' s' hq => by obtain ⟨f, rfl, hf⟩ := hq; exact hf) (fun _ _ _ hq => hq) _ _ h)
  exact ⟨n, r, s₂, s₁, hn, hs, hfo, hR⟩
theorem callFrom_mach {c : ClaimW} {tree : List Value → Sem Fin} {w : World} {s : Shared} {free : Addr → Prop} {gens : Prop} {kept : Heap → Prop} (hz : s.asleep) (hgens : s.gens = #[])
    (hspec : ∀ args, c.pre args = true → WData.layableAll args = true → ∀ ord : List DictEntry → List DictEntry, (∀ l, (ord l).Perm l) →
      ∃ vs s₁, layAllW c.records (classAt s.heap) w.params ord args s = some (vs, s₁) ∧
        Sem.wp (model c.prog w) ctx0 (tree vs) (fun fin _ s' => ∃ f, fin = .done f ∧ (c.Ends s args vs s₁ (.ok f) s' ∧ s'.os = s.os ∧ AllBare s'.gens ∧ kept s'.heap))
          (fun e _ s' => c.Ends s args vs s₁ (.error e) s' ∧ s'.os = s.os ∧ AllBare s'.gens ∧ kept s'.heap) default s₁) :
    c.CallFrom (fun vs => ⟨tree vs, .builtin "claim.caller" {}, default, []⟩) w free gens kept s := by
  intro args hpre hlay ord hord
  obtain ⟨vs, s₁, hlaid, hcode⟩ := hspec args hpre hlay ord hord
  have hal := layAllW_rest _ _ _ hlaid
  obtain ⟨k, r, s', s'', hrun, hsched, hfo, hcase, hos, hkp⟩ := ends_wp (prog := c.prog) (w := w) (t := tree vs) (s := s₁)
    (R := fun r s' => c.Ends s args vs s₁ r s' ∧ s'.os = s.os ∧ kept s'.heap)
    (Shared.asleep_of_life hal.2.2.2 hz)
    (Sem.wp_mono _ _ _ (by
      rintro fin _ s' ⟨f, e, h1, h2, h3, h4⟩
      exact ⟨f, e, ⟨h1, h2, h4⟩, leftWithCleanup_false_of_bare h3⟩) (by
      rintro e _ s' ⟨h1, h2, h3, h4⟩
      exact ⟨⟨h1, h2, h4⟩, leftWithCleanup_false_of_bare h3⟩) _ _ hcode)
  obtain ⟨eh, _, _, eo, _⟩ := Shared.forget_eq hfo
  have hcase := hcase.congr eh
  have hkp : kept s'.heap := by rw [eh]; exact hkp
  rw [← eo] at hos
  have hlife : s'.heap.life = s.heap.life := (runN_life _ _ _ hrun).trans hal.2.2.2
  refine ⟨vs, s₁, hlaid, k, _, s', hsched, ?_, (fun _ i x hx => by rw [hgens] at hx; simp at hx), hkp, by rw [hlife], Shared.rest_eq hos⟩
  rcases hcase with ⟨v, rfl, d1, d2, d3, d4, d5⟩ | ⟨e, ob, cls, rfl, d1, d2, d3, d4, d5⟩
  · exact .inl ⟨v, rfl, d1, d2, d3, fun b o y _ => d4 b o y, d5⟩
  · exact .inr ⟨e, ob, cls, rfl, d1, d2, d3, d4, fun b o y _ => d5 b o y⟩
theorem holds_mach {r : OpenRow} {q : Program} {loose : List Str} {Xt : Shared → Bool} {XP : (Str → Option Value) → Heap → Prop} {α : Type} {Yf : Shared → α} {Ya : World → α} {d : DefRec} {kwd : List (Str × Expr)} {N : Nat}
    (left : LeftO r.prog q loose Xt Yf Ya N)
    (hX : ∀ s, Xt s = true → XP (s.heap.nsMap mainGlobals) s.heap) (hXk : ∀ mg h h', XP mg h → (∀ b o, h.get? b = some o → h'.get? b = some o) → XP mg h')
    (hdef : defOf q r.name = some (d, kwd)) (hp : r.prog.theDef r.name = some (d.params, d.body, d.scope)) (hk : kwWritten? d.params.kwonlyargs d.params.kw_defaults = some kwd) (hRf : ∀ s, Xt s = true → RecFacts r.records s.heap) (hwr : (!r.writes || r.records.isEmpty) = true)
    (k1 : r.wellSaid = true) (ok : (chainsOk q && opensWell r.prog && (frees r.toRowW && r.within.isEmpty)) = true) (hb : r.prog.bare) (hw : r.toRowW.promised)
    (call : ∀ (w : World) (s s₁ : Shared), Yf s = Ya w → s.gens = #[] → Ground q loose r.records XP w s (s.heap.nsMap mainGlobals) (s.heap.nsMap builtinsNs) s₁.heap → ∀ (args : List WData) (vs : List Value) (as : List Addr),
      r.toRowW.claim.pre args = true → WData.layableAll args = true → Laid r.records w s s₁ args vs as → sysModules < s.heap.objs.size →
        Sem.wp (model r.prog w) ctx0 (lawTree r.name vs) (fun fin _ s' => ∃ v, fin = .done (.ret v) ∧ GoodWG r.toRowW.claim (classAt s.heap) (ExcName.means s.heap) args s₁ (.ok (.ret v)) s')
          (fun e _ s' => GoodWG r.toRowW.claim (classAt s.heap) (ExcName.means s.heap) args s₁ (.error e) s') default s₁) : r.Holds := by
  refine ⟨k1, hw, ?_⟩
  obtain ⟨ok, k5⟩ := Bool.and_eq_true_iff.mp ok
  obtain ⟨hch, o1⟩ := Bool.and_eq_true_iff.mp ok
  obtain ⟨k5, k6⟩ := Bool.and_eq_true_iff.mp k5
  obtain ⟨hsame, hu, ha, hap, hm⟩ := frees_parts k5
  refine ⟨⟨hb, o1, by show r.makers.map _ = []; rw [hm]; rfl⟩, hw.witness, fun w => ⟨(left.behind hX hch w).1, fun s' hs' => ?_⟩⟩
  obtain ⟨s₀, hf, hg0, s, hT, hz, hgens, hg, G00, y⟩ := (left.behind (XP := fun mg h => XP mg h ∧ RecFacts r.records h) (fun s hs => ⟨hX s hs, hRf s hs⟩) hch w).2 s' hs'
  have G0 : Ground q loose [] XP w s (s.heap.nsMap mainGlobals) (s.heap.nsMap builtinsNs) s.heap := ⟨G00.T, G00.B, G00.D, G00.TE, G00.TD, G00.W, G00.X.1, G00.cls, G00.has, G00.apart, G00.once, G00.K⟩
  have RF := G00.X.2
  refine ⟨s₀, hf, hg0, s, hT, fun n hn => ?_, RF.1, RF.2.1, ?_⟩
  · obtain rfl : n = r.name := by split at hn <;> simp_all
    exact pinned_of_view hg G0 hdef hp hk
  have hgens : s.gens = #[] := Array.eq_empty_of_size_eq_zero (beq_iff_eq.mp hgens)
  have G : Ground q loose r.records XP w s _ _ s.heap := RF.ground G0
  refine callFrom_mach (c := r.toRowW.claim) hz hgens fun args hpre hlay ord hord => ?_
  obtain ⟨⟨vs, s₁⟩, hlaid⟩ := Option.isSome_iff_exists.mp (layAllW_isSome (P := w.params) (ord := ord) G.has args r.args s (pre_splitW hpre).1)
  have keeps := layAllW_keeps _ _ _ hlaid
  have hal := layAllW_rest _ _ _ hlaid
  obtain ⟨as, hrd, hin, hold⟩ := reads_layAllW hord _ _ _ hlaid hlay s₁.heap (fun _ _ e => e)
  have L : Laid r.records w s s₁ args vs as := ⟨⟨ord, hord, hlaid⟩, hrd, hin, hold, keeps, hal.1.trans hgens, hal.2.2.1⟩
  have h := call w s s₁ y hgens (G.keeps hXk keeps) args vs as hpre hlay L G.low
  have hi := ident_freeW hu ha hap
  have hwi : r.toRowW.claim.within = [] := List.isEmpty_iff.mp k6
  refine ⟨vs, s₁, hlaid, Sem.wp_mono _ _ _ (fun fin _ s' g => ?_) (fun e _ s' g => ?_) _ _ h⟩
  · obtain ⟨v, rfl, g⟩ := g
    have z := g.laid (c := r.toRowW.claim) hsame hwi hi L
    exact ⟨_, rfl, z.1, z.2.1, z.2.2, fun q => ⟨namesKept_of hT hg _ keeps g.2.1.old, noTable hwr q⟩⟩
  · have z := g.laid (c := r.toRowW.claim) hsame hwi hi L
    exact ⟨z.1, z.2.1, z.2.2, fun q => ⟨namesKept_of hT hg _ keeps g.2.1.old, noTable hwr q⟩⟩
end Mine
end
section
theorem Mine.freshM4 : True := by
  run_tac (do PyProof.Rows.walkLines.set (0, {}); PyProof.Rows.walkHit.set {}; PyProof.Rows.walkTop.set false; PyProof.Rows.walkStart.set 0; PyProof.Rows.walkLate.set false)
  trivial
open PySem PySem.W PyProof.Rows
set_option Elab.async false
set_option maxRecDepth 100000
set_option maxHeartbeats 0
namespace Mine
open Lean Lean.Meta Lean.Elab Lean.Elab.Tactic
abbrev Exact := (Heap × Array GenState × Drawn × Nat) × List (Option Obj)
noncomputable def lawYf (s : PySem.Shared) : Exact := ((s.heap, s.gens, s.drawn, s.toks), KA.map s.heap.get?)
def addYa : TermElabM Unit := do
  let some e := (topsExt.getState (← getEnv))[0]? | throwError "no top"
  let P := mkConst ``Params
  let putDef (nm : Name) (v : Lean.Expr) : TermElabM Unit := do addDecl (.defnDecl { name := nm, levelParams := [], type := ← inferType v, value := v, hints := .abbrev, safety := .safe })
  putDef `Mine.topTree (← withLocalDeclD `P P fun q => mkLambdaFVars #[q] (mkApp (mkConst e.sK.tree) q))
  putDef `Mine.topSize (mkRawNatLit e.sK.n)
  putDef `Mine.topLife e.sK.life
  putDef `Mine.topGens e.sK.gens
  putDef `Mine.topDrawn e.sK.drawn
  putDef `Mine.topToks e.sK.toks
theorem yaAdded : True := by
  run_tac joinTop
  run_tac addYa
  trivial
noncomputable def lawYa (w : World) : Exact := ((absHeap (topTree w.params) topSize topLife, topGens, topDrawn, topToks), (KF w.params).map fun p => some p.2)
def machHead : TacticM Unit := withMainContext do
  let ty ← whnfR (← instantiateMVars (← getMainTarget))
  unless ty.isAppOfArity ``OpenRow.Holds 1 do throwError "no row"
  let r ← mkAppM ``OpenRow.toRowW #[ty.appArg!]
  let pE ← whnfR (← mkAppM ``RowW.prog #[r])
  let c ← match ← openProbe (← progOf pE) with
    | .error m => throwError "the head falls: {m}"
    | .ok c => pure c
  let nm (x : PySem.Str) := mkApp (mkConst ``PySem.Str.ofString) (mkStrLit x.toString)
  let main ← whnfD (← mkAppM ``Program.main #[pE])
  let some cells ← cellsD? (← mkAppM ``Module.body #[main]) | throwError "the text's body"
  let body ← mkListLit (mkConst ``Stmt) (c.keep.filterMap fun i => cells[i]?)
  let bS ← Term.exprToSyntax body
  let pS ← Term.exprToSyntax pE
  let qV ← instantiateMVars (← Term.elabTerm (← `(({ $pS with main := { ($pS).main with body := $bS } } : Program))) none)
  addDecl (.defnDecl { name := `Mine.lawView, levelParams := [], type := mkConst ``Program, value := qV, hints := .regular 1, safety := .safe })
  let looseE ← mkListLit (mkConst ``PySem.Str) (c.loose.map nm)
  let lvE ← mkListLit (← mkAppM ``Prod #[mkConst ``PySem.Str, mkConst ``WData]) (← c.lv.mapM fun (x, d) => (mkAppM ``Prod.mk #[nm x, wExpr d] : MetaM Lean.Expr))
  let rS ← Term.exprToSyntax r
  let (qS, lS, vS) := (← Term.exprToSyntax (mkConst `Mine.lawView), ← Term.exprToSyntax looseE, ← Term.exprToSyntax lvE)
  let nS := Syntax.mkNumLit (toString (2 * c.steps + 100))
  let (hl, hw, hc) := (mkIdent `hl, mkIdent `hw, mkIdent `hc)
  withoutRecover (evalTactic (← `(tactic| refine Mine.holds_mach (q := $qS) (loose := $lS) (Xt := fun s => xlAt $qS $vS s && recOk (RowW.records $rS) s) (XP := XL $qS $vS) (Yf := Mine.lawYf) (Ya := Mine.lawYa) (N := $nS) ?$hl (fun s e => xl_of s (Bool.and_eq_true_iff.mp e).1) XL.keeps (by rfl) (by rfl) (by rfl) (fun s e => recFacts_of (Bool.and_eq_true_iff.mp e).2) (by rfl) (by first | assumption | decide +kernel) (by decide +kernel) ⟨rfl, rfl, rfl, rfl, rfl, by decide +kernel⟩ ?$hw ?$hc)))
  let gs ← getGoals
  let mut rest := []
  for g in gs do
    if (← g.getTag).eraseMacroScopes == `hl then
      let some f ← leftPieces.get | throwError "no pieces"
      f g pE (← progOf pE) c.rows0
    else rest := rest ++ [← g.tryClearMany ((← getLCtx).getFVarIds)]
  setGoals rest
def addMach : TermElabM Unit := do
  let ty ← instantiateMVars (← Term.elabType (← `((PySem.Challenge.rw_ae5031_04).Holds)))
  let g ← mkFreshExprSyntheticOpaqueMVar ty
  let rest ← Tactic.run g.mvarId! (withoutRecover do
    evalTactic (← `(tactic| (w_on; o_law)))
    machHead
    evalTactic (← `(tactic| (case hw => w_witness2))))
  let [hc] := rest | throwError "the goals"
  let T ← instantiateMVars (← hc.getType)
  let pf ← withLocalDeclD `walk T fun h => do
    hc.assign h
    mkLambdaFVars #[h] (← instantiateMVars g)
  addDecl (.thmDecl { name := `Mine.mach, levelParams := [], type := ← mkArrow T ty, value := pf })
theorem machAdded : True := by
  run_tac (do
    let some e := (topsExt.getState (← getEnv))[0]? | throwError "no top"
    for n in e.sK.objs do Fast.primed.modify (·.insert n none)
    Fast.primed.modify (·.insert e.sK.tree none)
    Term.withDeclName `Mine.machAdded addMach)
  trivial
end Mine
end
section
theorem Mine.freshJ1 : True := by
  run_tac (do PyProof.Rows.walkLines.set (0, {}); PyProof.Rows.walkHit.set {}; PyProof.Rows.walkTop.set false; PyProof.Rows.walkStart.set 0; PyProof.Rows.walkLate.set false)
  trivial
open PySem PySem.W PyProof.Rows
set_option Elab.async false
set_option maxRecDepth 100000
namespace Mine
theorem has_int {R : WRecords} {x : WData} (h : WShape.has R x .int = true) : ∃ i, x = .int i := by
  cases x <;> first | exact ⟨_, rfl⟩ | (simp [WShape.has, WShape.arms] at h)
theorem lay_ints {R : WRecords} {cl : Str → Option Addr} {P : Params} {ord : List DictEntry → List DictEntry} : ∀ (xs : List WData) (s : PySem.Shared), WShape.hasItems R xs .int = true →
    ∃ (its : List Value) (tk : Nat), layAllW R cl P ord xs s = some (its, { s with toks := tk }) ∧ (∀ v ∈ its, ∃ k t, v = Value.int k t) ∧ its.length = xs.length
  | [], s, _ => ⟨[], s.toks, by simp [layAllW], (fun _ h => nomatch h), rfl⟩
  | x :: xs, s, h => by
    simp only [WShape.hasItems, Bool.and_eq_true] at h
    obtain ⟨i, rfl⟩ := has_int h.1
    obtain ⟨its, tk, e, h1, h2⟩ := lay_ints (cl := cl) (P := P) (ord := ord) xs { s with toks := s.toks + 1 } h.2
    refine ⟨.int i s.toks :: its, tk, ?_, ?_, by simp [h2]⟩
    · simp only [layAllW, layW, e]
    · intro v hv
      rcases List.mem_cons.mp hv with rfl | hv
      · exact ⟨_, _, rfl⟩
      · exact h1 v hv
theorem has_list {R : WRecords} {x : WData} (h : WShape.has R x (.list .int) = true) : ∃ xs, x = .list xs ∧ WShape.hasItems R xs .int = true := by
  cases x <;> first | (simp [WShape.has, WShape.arms] at h; exact ⟨_, rfl, h⟩) | (simp [WShape.has, WShape.arms] at h)
theorem law_args {cl : Str → Option Addr} {P : Params} {ord : List DictEntry → List DictEntry} {args : List WData} {vs : List Value} {s s₁ : PySem.Shared} (hpre : PySem.Challenge.rw_ae5031_04.row.claim.pre args = true)
    (hl : layAllW PySem.Challenge.rw_ae5031_04.row.records cl P ord args s = some (vs, s₁)) :
    ∃ (its : List Value) (tk : Nat), vs = [.ref s.heap.objs.size] ∧ s₁ = { s with heap := s.heap.push (listObj its.toArray), toks := tk } ∧ (∀ v ∈ its, ∃ k t, v = Value.int k t) ∧ its.length ≤ 63 := by
  obtain ⟨h1, h2⟩ := pre_splitW hpre
  obtain ⟨d, r, rfl, hd, hr⟩ := hasAllW_cons (e := .list .int) (es := []) h1
  obtain rfl := hasAllW_nil hr
  obtain ⟨xs, rfl, hx⟩ := has_list hd
  obtain ⟨its, tk, e, k1, k2⟩ := lay_ints (cl := cl) (P := P) (ord := ord) xs s hx
  simp only [layAllW, layW, e, Option.some.injEq, Prod.mk.injEq] at hl
  refine ⟨its, tk, hl.1.symm, hl.2.symm, k1, ?_⟩
  have h3 : WTm.holds PySem.Challenge.rw_ae5031_04.row.records (.not (.lt (.lit (.int 63)) (.len (.arg 0)))) { args := [WData.list xs] } = true := (holds_andW h2).1
  rw [k2]
  by_cases q : 63 < xs.length
  · exfalso
    have : ((63 : Int) < (xs.length : Int)) := by omega
    have e9 : less? (WData.int 63) (WData.int (xs.length : Int)) = some true := by show some (decide _) = _; simp [this]
    simp [WTm.holds, WTm.value, e9] at h3
  · omega
end Mine
end
section
theorem Mine.freshJ2 : True := by
  run_tac (do PyProof.Rows.walkLines.set (0, {}); PyProof.Rows.walkHit.set {}; PyProof.Rows.walkTop.set false; PyProof.Rows.walkStart.set 0; PyProof.Rows.walkLate.set false)
  trivial
open PySem PySem.W PyProof.Rows
set_option Elab.async false
set_option maxRecDepth 100000
set_option maxHeartbeats 4000000
namespace Mine
theorem tree0_is (P : Params) (T : Nat) (it : Array Value) : lawTree0 P T it = (topTree P).ins 1662 (listObj it) := by kernel_rfl
theorem tree0_heap (P : Params) (T : Nat) (it : Array Value) : absHeap (lawTree0 P T it) 1663 topLife = (absHeap (topTree P) 1662 topLife).push (listObj it) := by
  rw [tree0_is]
  exact absHeap_ins (by kernel_rfl)
theorem tree1_low (P : Params) (T : Nat) (it : Array Value) : (List.range 1663).map (fun i => (lawTree1 P T it).get i) = (List.range 1663).map (fun i => (lawTree0 P T it).get i) := by kernel_rfl
theorem tree1_get (P : Params) (T : Nat) (it : Array Value) {i : Nat} (h : i < 1663) : (lawTree1 P T it).get i = (lawTree0 P T it).get i := by
  have := congrArg (fun l => l[i]?) (tree1_low P T it)
  simpa [List.getElem?_map, List.getElem?_range h] using this
theorem tree1_keep (P : Params) (T : Nat) (it : Array Value) : ∀ b o, (absHeap (lawTree0 P T it) 1663 topLife).get? b = some o → (absHeap (lawTree1 P T it) 1723 topLife).get? b = some o := fun b o e => by
  have hb : b < 1663 := by have := Heap.lt_size e; rwa [absHeap_size] at this
  have h0 : (absHeap (lawTree0 P T it) 1663 topLife).objs[b]? = (absHeap (lawTree1 P T it) 1723 topLife).objs[b]? := by
    rw [absHeap_at, absHeap_at, if_pos hb, if_pos (Nat.lt_trans hb (by decide)), tree1_get P T it hb]
  unfold Heap.get? at e ⊢
  rwa [← h0]
theorem law_state (w : World) (p : Program) (os : OsState) (T : Nat) (it : Array Value) : ∃ n, segGo table p w 1663 none 1 n ⟨absHeap (lawTree0 w.params T it) 1663 topLife, topGens, topDrawn, T, os⟩ ⟨denote table (lawCode 1662), lawCode 1662, default, [lawFrame]⟩ =
    some (⟨absHeap (lawTree1 w.params T it) 1723 topLife, topGens, topDrawn, T + 213, os⟩, ⟨lawCur1, .func lawBody lawEnv, lawPos1, [lawFrame]⟩) := by
  rw [table_eq_tree]
  exact ⟨_, lawGo w p os T it⟩
end Mine
end
section
theorem Mine.freshJ3 : True := by
  run_tac (do PyProof.Rows.walkLines.set (0, {}); PyProof.Rows.walkHit.set {}; PyProof.Rows.walkTop.set false; PyProof.Rows.walkStart.set 0; PyProof.Rows.walkLate.set false)
  trivial
open PySem PySem.W PySem.Calls PyProof.Rows
set_option Elab.async false
set_option maxRecDepth 100000
namespace Mine
theorem law_in : (Ctx.of (.func lawBody lawEnv) [lawFrame]).In (callerA.deeper lawEnv) :=
  ⟨rfl, by decide +kernel, fun l hl => by cases hl; rfl, fun g hg => by cases hg; rfl, by decide +kernel⟩
theorem law_enter (n : Addr) : ctx0.enter (lawCode n) none default = Ctx.of (lawCode n) [lawFrame] := rfl
theorem law_wp {prog : Program} {w : World} {s : PySem.Shared} {R : Result → PySem.Shared → Prop} {mg : Str → Option Value} {n : Addr} (hg : s.heap.Ns mainNs mg) (hm : mg (Str.ofString "law") = some (.ref 1661))
    (h : wpCode (model prog w) (Ctx.of (lawCode n) [lawFrame]) (fun r s' => match r with | .ok (.ret v) => R (.ok (.ret v)) s' | .ok _ => False | .error e => R (.error e) s') default s) :
    Sem.wp (model prog w) ctx0 (lawTree (Str.ofString "law") [.ref n]) (fun fin _ s' => ∃ v, fin = .done (.ret v) ∧ R (.ok (.ret v)) s') (fun e _ s' => R (.error e) s') default s := by
  unfold lawTree
  rw [Sem.wp_bind', Sem.wp_nsGet _ _ _ _ _ hg]
  simp only [hm]
  rw [Sem.wp_bind']
  unfold PySem.call
  rw [Sem.wp_runValue]
  rw [show ctx0.enter (Code.call (.ref 1661) ⟨[.ref n], []⟩) none default = Ctx.of (lawCode n) [lawFrame] from rfl]
  refine wpCode_mono (fun r s' hr => ?_) h
  cases r with
  | error e => exact hr
  | ok f => cases f with
    | ret v => exact ⟨v, rfl, hr⟩
    | next => exact hr
    | brk => exact hr
    | cont => exact hr
theorem law_rest {prog : Program} {w : World} {s s' : PySem.Shared} {n : Nat} {R : Result → PySem.Shared → Prop} {m : Addr}
    (h : segGo table prog w 1663 none 1 n s ⟨denote table (lawCode m), lawCode m, default, [lawFrame]⟩ = some (s', ⟨lawCur1, .func lawBody lawEnv, lawPos1, [lawFrame]⟩)) (hg : s'.gens = #[])
    (k : wpAny (model prog w) (callerA.deeper lawEnv) (execs lawRest lawEnv) (fun f s₂ => match f with | .ret v => R (.ok (.ret v)) s₂ | _ => R (.ok (.ret .none)) s₂)
      (fun e s₂ => wpAny (model prog w) (callerA.deeper lawEnv) («leaving» lawEnv e) (fun _ s₃ => R (.error e) s₃) (fun e' s₃ => R (.error e') s₃) s₂) s') :
    wpCode (model prog w) (Ctx.of (lawCode m) [lawFrame]) (fun r s' => match r with | .ok (.ret v) => R (.ok (.ret v)) s' | .ok _ => False | .error e => R (.error e) s') default s := by
  refine law_wpCode h hg ?_
  have k2 : wpAny (model prog w) (callerA.deeper lawEnv) lawCur1 (fun fin s₂ => ∃ v, fin = .done (.ret v) ∧ R (.ok (.ret v)) s₂) (fun e s₂ => R (.error e) s₂) s' := by
    unfold lawCur1
    refine wpAny_bind (wpAny_onRaise (wpAny_mono k (fun f s₂ hf => ?_) fun e s₂ he => he))
    cases f with
    | ret v => exact wpAny_pure ⟨v, rfl, hf⟩
    | next => exact wpAny_pure ⟨_, rfl, hf⟩
    | brk => exact wpAny_pure ⟨_, rfl, hf⟩
    | cont => exact wpAny_pure ⟨_, rfl, hf⟩
  refine Sem.wp_mono _ _ _ (fun fin p' s₂ hf => ?_) (fun _ _ _ he => he) _ _ (k2 _ lawPos1 law_in)
  obtain ⟨v, rfl, hv⟩ := hf
  exact hv
end Mine
end
section
theorem Mine.freshP1 : True := by
  run_tac (do PyProof.Rows.walkLines.set (0, {}); PyProof.Rows.walkHit.set {}; PyProof.Rows.walkTop.set false; PyProof.Rows.walkStart.set 0; PyProof.Rows.walkLate.set false)
  trivial
open PySem PySem.W PySem.Calls PyProof.Rows
set_option Elab.async false
set_option maxRecDepth 100000
set_option maxHeartbeats 8000000
set_option linter.unusedVariables false
set_option linter.unusedSimpArgs false
namespace Mine
abbrev ent (w : World) (n : String) (t : Tok) (v : Value) : DictEntry := ⟨PyData.keyHash w.params (Str.ofString n), .str (Str.ofString n) t, v⟩
structure PD where
  (fp eof bufpos buf charpos parse1 curtoken curtokenpos tokens context curtype curstack results : Value)
  (t1 t2 t3 t4 t5 t6 t7 t8 t9 t10 t11 t12 t13 : Tok)
abbrev PD.es (w : World) (d : PD) : List DictEntry := [ent w "fp" d.t1 d.fp, ent w "eof" d.t2 d.eof, ent w "bufpos" d.t3 d.bufpos, ent w "buf" d.t4 d.buf, ent w "charpos" d.t5 d.charpos, ent w "_parse1" d.t6 d.parse1,
  ent w "_curtoken" d.t7 d.curtoken, ent w "_curtokenpos" d.t8 d.curtokenpos, ent w "_tokens" d.t9 d.tokens, ent w "context" d.t10 d.context, ent w "curtype" d.t11 d.curtype, ent w "curstack" d.t12 d.curstack, ent w "results" d.t13 d.results]
section
variable {prog : Program} {w : World} {A : Around} {E : Value → Shared → Prop} {s : Shared} {h₀ : Heap} {L D b : Addr} {m : Str → Option Value} {news news' : List (Addr × Obj)} {n n2 : Nat} {vs xs : List Value}
theorem my_extend {Q : Value → Shared → Prop} (F : Fr h₀ L s.heap m) (N : News h₀ L s.heap news) (hb : (b, ({ cls := .type "tuple", data := .seq xs.toArray n2 } : Obj)) ∈ news) (hne : xs.length ≠ 0)
    (U : Upd D (listOf vs.toArray n) (listOf (vs ++ xs).toArray (n + 1)) news news') (hz : vs.length + xs.length ≤ 1000)
    (h : ∀ h', Fr h₀ L h' m → News h₀ L h' news' → Q .none { s with heap := h' }) : wpAny (model prog w) A (call (.builtin "list.extend") [.ref D, .ref b]) Q E s := by
  have sz : sizeLine = 16777216 := rfl
  refine kup_extend F N hb (by rfl) (by simpa using hne) U ?_ ?_ ?_ h
  · have : Builtin.List.listTooLong (vs.toArray.size + xs.toArray.size) = false := by
      unfold Builtin.List.listTooLong
      rw [decide_eq_false]
      simp only [List.size_toArray]
      omega
    rw [this]; simp
  · simp only [List.toList_toArray]; omega
  · simp only [List.size_toArray]; omega
end
local macro_rules | `(tactic| k_all) => `(tactic| assumption)
local macro_rules | `(tactic| walk_at "call builtin:list.extend") => `(tactic| (k_here; k_dflt (refine' my_extend ?F ?N ?b ?ne ?U ?z ?_; (case F => k_asm); (case N => k_asm); (case b => k_mem); (case ne => simp); (case U => k_upd); (case z => (simp only [List.length_cons, List.length_nil]; omega)); k_whole); intro h' F' N'; (try k_sweep)))
section
variable {w : World} {E : Value → Shared → Prop} {Q : Value → Shared → Prop} {s : Shared} {h₀ : Heap} {L fa : Addr} {cd : Value} {m : Str → Option Value} {nm : List (Str × NameKind)} {b1 b2 : Bool} {mr : List (Str × Const)} {cn : Str}
  {p : Program} {loose : List Str} {mean : ExcName → Option Value} {mg mb : Str → Option Value} {rest : List (Addr × Obj)} {P D CU : Addr} {vs : List Value} {n : Nat} {d : PD} {v v2 : Value}
theorem push1 (B : Below callerA h₀ [] h₀) (F : Fr h₀ L s.heap m) (X : (K w.params).In h₀) (T : Top p loose mean mg mb h₀)
    (N : News h₀ L s.heap ((P, instObj 1367 D) :: (D, dictOf (d.es w) 13) :: (CU, listOf vs.toArray n) :: rest)) (hcu : d.curstack = .ref CU)
    (hP : ∀ p ∈ rest, p.1 ≠ P) (hD : ∀ p ∈ rest, p.1 ≠ D) (hC : ∀ p ∈ rest, p.1 ≠ CU) (hvs : vs.length ≤ 900) (hPD : P ≠ D) (hPC : P ≠ CU) (hDC : D ≠ CU)
    (h : ∀ h' tk, Fr h₀ L h' m → News h₀ L h' ((P, instObj 1367 D) :: (D, dictOf (d.es w) 13) :: (CU, listOf (vs ++ [v]).toArray (n + 1)) :: rest) → Q .none { s with heap := h', toks := tk }) :
    wpAny (model PySem.Challenge.rw_ae5031_04.row.prog w) (callerA.deeper (envOfC cn ⟨.function, nm, b1, b2, mr⟩ L fa cd)) (call (.ref 1319) [.ref P, v] []) Q E s := by
  revert X; k_fill; intro X
  obtain ⟨fp, eof, bufpos, buf, charpos, parse1, curtoken, curtokenpos, tokens, context, curtype, curstack, results, t1, t2, t3, t4, t5, t6, t7, t8, t9, t10, t11, t12, t13⟩ := d
  dsimp only at hcu
  subst hcu
  refine wpAny_call ?_
  k_enter
  k_steps
  exact h _ _ (by assumption) (fun p hp => (by assumption : News _ _ _ _) p (.tail _ hp))
theorem push2 (B : Below callerA h₀ [] h₀) (F : Fr h₀ L s.heap m) (X : (K w.params).In h₀) (T : Top p loose mean mg mb h₀)
    (N : News h₀ L s.heap ((P, instObj 1367 D) :: (D, dictOf (d.es w) 13) :: (CU, listOf vs.toArray n) :: rest)) (hcu : d.curstack = .ref CU)
    (hP : ∀ p ∈ rest, p.1 ≠ P) (hD : ∀ p ∈ rest, p.1 ≠ D) (hC : ∀ p ∈ rest, p.1 ≠ CU) (hvs : vs.length ≤ 900) (hPD : P ≠ D) (hPC : P ≠ CU) (hDC : D ≠ CU)
    (h : ∀ h' tk, Fr h₀ L h' m → News h₀ L h' ((P, instObj 1367 D) :: (D, dictOf (d.es w) 13) :: (CU, listOf (vs ++ [v, v2]).toArray (n + 1)) :: rest) → Q .none { s with heap := h', toks := tk }) :
    wpAny (model PySem.Challenge.rw_ae5031_04.row.prog w) (callerA.deeper (envOfC cn ⟨.function, nm, b1, b2, mr⟩ L fa cd)) (call (.ref 1319) [.ref P, v, v2] []) Q E s := by
  revert X; k_fill; intro X
  obtain ⟨fp, eof, bufpos, buf, charpos, parse1, curtoken, curtokenpos, tokens, context, curtype, curstack, results, t1, t2, t3, t4, t5, t6, t7, t8, t9, t10, t11, t12, t13⟩ := d
  dsimp only at hcu
  subst hcu
  refine wpAny_call ?_
  k_enter
  k_steps
  exact h _ _ (by assumption) (fun p hp => (by assumption : News _ _ _ _) p (.tail _ hp))
theorem results2 (B : Below callerA h₀ [] h₀) (F : Fr h₀ L s.heap m) (X : (K w.params).In h₀) (T : Top p loose mean mg mb h₀)
    (N : News h₀ L s.heap ((P, instObj 1367 D) :: (D, dictOf (d.es w) 13) :: (CU, listOf vs.toArray n) :: rest)) (hcu : d.results = .ref CU)
    (hP : ∀ p ∈ rest, p.1 ≠ P) (hD : ∀ p ∈ rest, p.1 ≠ D) (hC : ∀ p ∈ rest, p.1 ≠ CU) (hvs : vs.length ≤ 900) (hPD : P ≠ D) (hPC : P ≠ CU) (hDC : D ≠ CU)
    (h : ∀ h' tk, Fr h₀ L h' m → News h₀ L h' ((P, instObj 1367 D) :: (D, dictOf (d.es w) 13) :: (CU, listOf (vs ++ [v, v2]).toArray (n + 1)) :: rest) → Q .none { s with heap := h', toks := tk }) :
    wpAny (model PySem.Challenge.rw_ae5031_04.row.prog w) (callerA.deeper (envOfC cn ⟨.function, nm, b1, b2, mr⟩ L fa cd)) (call (.ref 1340) [.ref P, v, v2] []) Q E s := by
  revert X; k_fill; intro X
  obtain ⟨fp, eof, bufpos, buf, charpos, parse1, curtoken, curtokenpos, tokens, context, curtype, curstack, results, t1, t2, t3, t4, t5, t6, t7, t8, t9, t10, t11, t12, t13⟩ := d
  dsimp only at hcu
  subst hcu
  refine wpAny_call ?_
  k_enter
  k_steps
  exact h _ _ (by assumption) (fun p hp => (by assumption : News _ _ _ _) p (.tail _ hp))
theorem popall0 (B : Below callerA h₀ [] h₀) (F : Fr h₀ L s.heap m) (X : (K w.params).In h₀) (T : Top p loose mean mg mb h₀)
    (N : News h₀ L s.heap ((P, instObj 1367 D) :: (D, dictOf (d.es w) 13) :: rest)) (hcu : d.curstack = .ref CU)
    (hP : ∀ p ∈ rest, p.1 ≠ P) (hD : ∀ p ∈ rest, p.1 ≠ D) (hPD : P ≠ D)
    (h : ∀ h' tk CN, Fr h₀ L h' m → News h₀ L h' ((CN, listOf #[] 0) :: (P, instObj 1367 D) :: (D, dictOf (PD.es w { d with curstack := .ref CN }) 13) :: rest) → P < CN ∧ D < CN ∧ AllLt CN rest → Q (.ref CU) { s with heap := h', toks := tk }) :
    wpAny (model PySem.Challenge.rw_ae5031_04.row.prog w) (callerA.deeper (envOfC cn ⟨.function, nm, b1, b2, mr⟩ L fa cd)) (call (.ref 1333) [.ref P] []) Q E s := by
  revert X; k_fill; intro X
  obtain ⟨fp, eof, bufpos, buf, charpos, parse1, curtoken, curtokenpos, tokens, context, curtype, curstack, results, t1, t2, t3, t4, t5, t6, t7, t8, t9, t10, t11, t12, t13⟩ := d
  dsimp only at hcu
  subst hcu
  refine wpAny_call ?_
  k_enter
  k_steps
  exact h _ _ _ (by assumption) (by assumption) (by assumption)
end
end Mine
end
section
theorem Mine.freshP2 : True := by
  run_tac (do PyProof.Rows.walkLines.set (0, {}); PyProof.Rows.walkHit.set {}; PyProof.Rows.walkTop.set false; PyProof.Rows.walkStart.set 0; PyProof.Rows.walkLate.set false)
  trivial
open PySem PySem.W PySem.Calls PyProof.Rows
set_option Elab.async false
set_option maxRecDepth 100000
set_option maxHeartbeats 8000000
set_option linter.unusedVariables false
set_option linter.unusedSimpArgs false
namespace Mine
local macro_rules | `(tactic| k_all) => `(tactic| assumption)
section
variable {w : World} {E : Value → Shared → Prop} {Q : Value → Shared → Prop} {s : Shared} {h₀ : Heap} {L fa : Addr} {cd : Value} {m : Str → Option Value} {nm : List (Str × NameKind)} {b1 b2 : Bool} {mr : List (Str × Const)} {cn : Str}
  {p : Program} {loose : List Str} {mean : ExcName → Option Value} {mg mb : Str → Option Value} {rest : List (Addr × Obj)} {P D CX CU : Addr} {vs cxs : List Value} {n : Nat} {d : PD} {v v2 : Value}
theorem reset0 (B : Below callerA h₀ [] h₀) (F : Fr h₀ L s.heap m) (X : (K w.params).In h₀) (T : Top p loose mean mg mb h₀)
    (N : News h₀ L s.heap ((P, instObj 1367 D) :: (D, dictOf (d.es w) 13) :: rest))
    (hP : ∀ p ∈ rest, p.1 ≠ P) (hD : ∀ p ∈ rest, p.1 ≠ D) (hPD : @Ne Nat P D)
    (h : ∀ h' tk A1 A2 A3, Fr h₀ L h' m → News h₀ L h' ((A3, listOf #[] 0) :: (A2, listOf #[] 0) :: (A1, listOf #[] 0) :: (P, instObj 1367 D) :: (D, dictOf (PD.es w { d with context := .ref A1, curtype := .none, curstack := .ref A2, results := .ref A3 }) 13) :: rest) →
      (P < A1 ∧ D < A1 ∧ AllLt A1 rest) → A1 < A2 → A2 < A3 → Q .none { s with heap := h', toks := tk }) :
    wpAny (model PySem.Challenge.rw_ae5031_04.row.prog w) (callerA.deeper (envOfC cn ⟨.function, nm, b1, b2, mr⟩ L fa cd)) (call (.ref 1305) [.ref P] []) Q E s := by
  revert X; k_fill; intro X
  obtain ⟨fp, eof, bufpos, buf, charpos, parse1, curtoken, curtokenpos, tokens, context, curtype, curstack, results, t1, t2, t3, t4, t5, t6, t7, t8, t9, t10, t11, t12, t13⟩ := d
  refine wpAny_call ?_
  k_enter
  k_steps
  rename_i l1 l2 l3
  exact h _ _ _ _ _ (by assumption) (by assumption) (by assumption) (And.left (by assumption)) (And.left (by assumption))
theorem start0 {kd : Str} {tkd : Tok} {pos : Int} {tp : Tok} (B : Below callerA h₀ [] h₀) (F : Fr h₀ L s.heap m) (X : (K w.params).In h₀) (T : Top p loose mean mg mb h₀)
    (N : News h₀ L s.heap ((P, instObj 1367 D) :: (D, dictOf (d.es w) 13) :: (CX, listOf cxs.toArray n) :: rest)) (hcx : d.context = .ref CX) (hct : d.curtype = .none ∨ ∃ k t, d.curtype = .str k t) (hcu : d.curstack = .ref CU)
    (hP : ∀ p ∈ rest, p.1 ≠ P) (hD : ∀ p ∈ rest, p.1 ≠ D) (hC : ∀ p ∈ rest, p.1 ≠ CX) (hPD : @Ne Nat P D) (hPC : @Ne Nat P CX) (hDC : @Ne Nat D CX) (hvs : cxs.length ≤ 900)
    (h : ∀ h' tk A1 A2, Fr h₀ L h' m → News h₀ L h' ((A2, listOf #[] 0) :: (A1, ({ cls := .type "tuple", data := .seq #[Value.int pos tp, d.curtype, Value.ref CU] 0 } : Obj)) :: (P, instObj 1367 D) :: (D, dictOf (PD.es w { d with curtype := Value.str kd tkd, curstack := .ref A2 }) 13) :: (CX, listOf (cxs.toArray.push (Value.ref A1)) (n + 1)) :: rest) →
      (P < A1 ∧ D < A1 ∧ CX < A1 ∧ AllLt A1 rest) → A1 < A2 → Q .none { s with heap := h', toks := tk }) :
    wpAny (model PySem.Challenge.rw_ae5031_04.row.prog w) (callerA.deeper (envOfC cn ⟨.function, nm, b1, b2, mr⟩ L fa cd)) (call (.ref 1347) [.ref P, Value.int pos tp, Value.str kd tkd] []) Q E s := by
  revert X; k_fill; intro X
  obtain ⟨fp, eof, bufpos, buf, charpos, parse1, curtoken, curtokenpos, tokens, context, curtype, curstack, results, t1, t2, t3, t4, t5, t6, t7, t8, t9, t10, t11, t12, t13⟩ := d
  dsimp only at hcx hct hcu
  subst hcx hcu
  rcases hct with hct | ⟨ck, ct, hct⟩
  all_goals subst hct
  all_goals
    refine wpAny_call ?_
    k_enter
    k_steps
    exact h _ _ _ _ (by assumption) (fun p hp => (by assumption : News _ _ _ _) p (.tail _ hp)) (by assumption) (And.left (by assumption))
end
end Mine
end
section
theorem Mine.freshR1 : True := by
  run_tac (do PyProof.Rows.walkLines.set (0, {}); PyProof.Rows.walkHit.set {}; PyProof.Rows.walkTop.set false; PyProof.Rows.walkStart.set 0; PyProof.Rows.walkLate.set false)
  trivial
open PySem PySem.W PySem.Calls PyProof.Rows
set_option Elab.async false
set_option maxRecDepth 100000
set_option maxHeartbeats 400000
set_option linter.unusedVariables false
set_option linter.unusedSimpArgs false
namespace Mine
section
variable {prog : Program} {w : World} {A : Around} {E : Value → Shared → Prop} {s : Shared} {h₀ : Heap} {L l a b : Addr} {m : Str → Option Value} {news : List (Addr × Obj)} {value slice : PySem.Expr} {vs : List Value} {n n2 : Nat} {vl vu : Value} {x y : Int} {t u : Tok} {Q : Value → Shared → Prop}
theorem ne_lists (N : News h₀ L s.heap news) (ha : (a, listOf vs.toArray n) ∈ news) (hb : (b, listOf vs.toArray n2) ∈ news) (hu : A.units + 64 < cLine) (h : Q (.bool false) s) :
    wpAny (model prog w) A (compareOp .NotEq (.ref a) (.ref b)) Q E s := by
  refine cmp_ofNotEq (SeqAt.RcNeAt.lists (e := fun _ => true) (IsL.isList (N _ ha).1) (IsL.isList (N _ hb).1) rfl (Nat.lt_of_le_of_lt (Nat.le_add_right _ _) hu) (fun j h1 h2 => SeqAt.EqAt.same _) prog w E Q ?_)
  have : ((List.range vs.toArray.size).all fun _ => true) = true := by simp
  rw [this]
  exact h
theorem eq_lists (N : News h₀ L s.heap news) (ha : (a, listOf vs.toArray n) ∈ news) (hb : (b, listOf vs.toArray n2) ∈ news) (hu : A.units + 64 < cLine) (h : Q (.bool true) s) :
    wpAny (model prog w) A (compareOp .Eq (.ref a) (.ref b)) Q E s := by
  refine cmp_ofEq (SeqAt.RcAt.lists (e := fun _ => true) (IsL.isList (N _ ha).1) (IsL.isList (N _ hb).1) rfl (Nat.lt_of_le_of_lt (Nat.le_add_right _ _) hu) (fun j h1 h2 => SeqAt.EqAt.same _) prog w E Q ?_)
  have : ((List.range vs.toArray.size).all fun _ => true) = true := by simp
  rw [this]
  exact h
theorem pick_from (h : 0 ≤ x) : slicePick vs.toArray (some x) none none = (vs.drop x.toNat).toArray := by
  have e : sliceBounds (some x) none none vs.toArray.size = (((min x.toNat vs.toArray.size : Nat) : Int), ((vs.toArray.size : Nat) : Int), 1) := by
    simp only [sliceBounds, Option.getD_none, show (1 : Int) > 0 by decide, if_true, if_neg (show ¬ (x < 0) by omega)]
    congr 1
    omega
  rw [kmk_pick_nat _ e]
  show ((vs.drop (min x.toNat vs.toArray.size)).take (vs.toArray.size - min x.toNat vs.toArray.size)).toArray = _
  rw [List.size_toArray, kmk_drop_min, List.take_of_length_le (by rw [List.length_drop]; omega)]
theorem pick_neg (h : x < 0) : slicePick vs.toArray (some x) none none = (vs.drop (vs.length - (-x).toNat)).toArray := by
  have e : sliceBounds (some x) none none vs.toArray.size = (((vs.toArray.size - (-x).toNat : Nat) : Int), ((vs.toArray.size : Nat) : Int), 1) := by
    simp only [sliceBounds, Option.getD_none, show (1 : Int) > 0 by decide, if_true, if_pos h]
    congr 1
    omega
  rw [kmk_pick_nat _ e]
  show ((vs.drop (vs.toArray.size - (-x).toNat)).take (vs.toArray.size - (vs.toArray.size - (-x).toNat))).toArray = _
  rw [List.size_toArray, List.take_of_length_le (by rw [List.length_drop]; omega)]
theorem pick_upto (h : 0 ≤ y) : slicePick vs.toArray none (some y) none = (vs.take y.toNat).toArray := by
  have e : sliceBounds none (some y) none vs.toArray.size = (((0 : Nat) : Int), ((min y.toNat vs.toArray.size : Nat) : Int), 1) := by
    simp only [sliceBounds, Option.getD_none, show (1 : Int) > 0 by decide, if_true, if_neg (show ¬ (y < 0) by omega)]
    congr 1
    congr 1
    omega
  rw [kmk_pick_nat _ e]
  show ((vs.drop 0).take (min y.toNat vs.toArray.size - 0)).toArray = _
  rw [List.drop_zero, Nat.sub_zero, List.size_toArray, kmk_take_min]
theorem slice_any {lo hi : Option Int} {zs : List Value} (F : Fr h₀ L s.heap m) (N : News h₀ L s.heap news) (hl : (l, listOf vs.toArray n) ∈ news) (pl : IsPart vl lo) (pu : IsPart vu hi) (e : slicePick vs.toArray lo hi none = zs.toArray)
    (h : ∀ D h', Fr h₀ L h' m → News h₀ L h' ((D, listOf zs.toArray 0) :: news) → (∀ p ∈ news, p.1 < D) → Q (.ref D) { s with heap := h' })
    (hs : subscripted slice false (.ref l) (.ref s.heap.objs.size) = operate [.ref s.heap.objs.size, .ref l] (getItem (.ref l) (.ref s.heap.objs.size))) (ht : ∀ r, letTemporaryGo value (.ref l) r = pure ()) (hz : vs.length ≤ 1000) :
    wpAny (model prog w) A (subscriptTail value slice (.ref l) (.ref s.heap.objs.size)) Q E { s with heap := s.heap.push { cls := .type "slice", data := .fields #[vl, vu, .none] } } := by
  have sz : sizeLine = 16777216 := rfl
  exact kmk_slice F N (IsL.isList (N _ hl).1) pl pu (fun D h' F' N' l1 => h D h' F' (e ▸ N') l1) hs ht (by simp only [List.size_toArray]; omega)
end
end Mine
end
section
theorem Mine.freshR2 : True := by
  run_tac (do PyProof.Rows.walkLines.set (0, {}); PyProof.Rows.walkHit.set {}; PyProof.Rows.walkTop.set false; PyProof.Rows.walkStart.set 0; PyProof.Rows.walkLate.set false)
  trivial
open PySem PySem.W PySem.Calls PyProof.Rows PySem.Spec
set_option Elab.async false
set_option maxRecDepth 100000
set_option maxHeartbeats 400000
set_option linter.unusedVariables false
set_option linter.unusedSimpArgs false
namespace Mine
section
variable {prog : Program} {w : World} {A : Around} {E : Value → Shared → Prop} {s : Shared} {h₀ : Heap} {L l a b : Addr} {m : Str → Option Value} {news news' : List (Addr × Obj)} {vs : List Value} {n n2 : Nat} {vl vu : Value} {x y : Int} {t u : Tok}
theorem setSlice_raw {Q : Unit → Shared → Prop} {sl : Addr} {items : Array Value} {lo : Option Int} (ho : s.heap.get? l = some (listOf items n)) (hs : s.heap.IsSliceOf sl vl .none .none) (pl : IsPart vl lo)
    (hb : s.heap.get? b = some (listOf #[] n2)) (hne : l ≠ b) (hz : items.size ≤ 1000)
    (hQ : Q () { s with heap := s.heap.update l (Obj.mapSeq (fun xs => xs.extract 0 (sliceBounds lo none none items.size).1.toNat ++ #[] ++ xs.extract (max (sliceBounds lo none none items.size).1 (sliceBounds lo none none items.size).2.1).toNat xs.size)) }) :
    wpAny (model prog w) A (setItem (.ref l) (.ref sl) (.ref b)) Q E s := by
  have szl : sizeLine = 16777216 := rfl
  have hl : s.heap.IsList l items := PySem.IsL.isList (n := n) ho
  obtain ⟨os, hos, hcs, hds⟩ := id hs
  have hTs : s.TypeIs (.ref sl) "slice" := ⟨os, hos, hcs⟩
  have hTb : s.TypeIs (.ref b) "list" := ⟨_, hb, rfl⟩
  unfold setItem
  try with_reducible refine wpAny_holding ?_
  first | refine wpAny_bind (wpAny_pure ?_) | skip
  refine wpAny_bind (wpAny_sequenceKey hl.typeIs (by decide) ?_)
  refine wpAny_bind (wpAny_callSpecial?_slot (name := Str.ofString "__setitem__") hl.typeIs slot_list_setitem
    (wpAny_call_entry slot_list_setitem hl.typeIs entry_list_setitem ?_ (args_list_setitem _ _ _)))
  show wpAny _ _ (Builtin.List.listSubscript? (.ref sl) >>= _) _ _ s
  refine wpAny_bind ?_
  unfold Builtin.List.listSubscript?
  refine wpAny_bind (wpAny_specialOf hTs slice_no_index ?_)
  simp only [Option.isNone_none, if_true]
  refine wpAny_pure ?_
  show wpAny _ _ (typeOf (.ref sl) >>= _) _ _ s
  refine wpAny_bind (wpAny_typeOf hTs ?_)
  rw [if_neg (by decide)]
  rw [listSliceParts_eq]
  refine wpAny_bind (wpAny_bind (wpAny_field hos hds (x := Value.none) rfl (wpAny_bind (wpAny_listPart .none ?_))))
  rw [if_neg (show ¬ ((rawPart (none : Option Int) == rawInt 0) = true) from Bool.false_ne_true)]
  refine wpAny_bind (wpAny_field hos hds (x := vl) rfl (wpAny_bind (wpAny_listPart pl ?_)))
  refine wpAny_bind (wpAny_field hos hds (x := Value.none) rfl (wpAny_bind (wpAny_listPart .none (wpAny_pure ?_))))
  have e1 : Builtin.List.listSameRef (.ref l) (.ref b) = false := by
    show (l == b) = false
    exact beq_eq_false_iff_ne.mpr hne
  dsimp only
  rw [e1]
  simp only [Bool.false_eq_true, if_false]
  unfold Builtin.List.listAllItems
  refine wpAny_bind (wpAny_bind (wpAny_typeOf hTb ?_))
  simp only [beq_self_eq_true, Bool.true_or, if_true]
  unfold Builtin.List.listItems
  refine wpAny_bind (wpAny_seqItems hb rfl (wpAny_pure ?_))
  refine wpAny_bind (wpAny_bind (wpAny_seqItems ho rfl (wpAny_pure ?_)))
  refine wpAny_bind (wpAny_of_eq (sliceIndices_raw lo none none items.size (by simp)) ?_)
  have e2 : (sliceBounds lo none none items.size).2.2 = 1 := by cases lo <;> rfl
  dsimp only
  rw [e2]
  simp only [beq_self_eq_true, if_true]
  refine wpAny_bind (wpAny_rule ?_)
  have e3 : Builtin.List.listTooLong (items.size + (#[] : Array Value).size) = false := by
    unfold Builtin.List.listTooLong
    rw [decide_eq_false]
    simp
    omega
  rw [e3]
  simp only [Bool.false_eq_true, if_false]
  unfold Builtin.List.listUpdate
  refine wpAny_bind (wpAny_updateSeq ho rfl (wpAny_bind (wpAny_letGo (wpAny_pure ⟨.none, rfl, wpAny_pure hQ⟩))) ?_ ?_)
  · omega
  · simp only [Array.size_append, Array.size_extract, Array.size_empty]
    omega
theorem cut_is (h : x < 0) : (vs.toArray.extract 0 (sliceBounds (some x) none none vs.toArray.size).1.toNat ++ #[] ++ vs.toArray.extract (max (sliceBounds (some x) none none vs.toArray.size).1 (sliceBounds (some x) none none vs.toArray.size).2.1).toNat vs.toArray.size) = (vs.take (vs.length - (-x).toNat)).toArray := by
  have e : sliceBounds (some x) none none vs.toArray.size = (((vs.length - (-x).toNat : Nat) : Int), ((vs.length : Nat) : Int), 1) := by
    simp only [sliceBounds, Option.getD_none, show (1 : Int) > 0 by decide, if_true, if_pos h, List.size_toArray]
    congr 1
    omega
  rw [e]
  dsimp only
  have e2 : (max ((vs.length - (-x).toNat : Nat) : Int) ((vs.length : Nat) : Int)).toNat = vs.length := by omega
  rw [e2]
  simp
theorem setSlice_neg {Q : Unit → Shared → Prop} (F : Fr h₀ L s.heap m) (N : News h₀ L s.heap news) (hb : (b, listOf #[] n2) ∈ news) (hne : @Ne Nat l b)
    (U : Upd l (listOf vs.toArray n) (listOf (vs.take (vs.length - (-x).toNat)).toArray (if (vs.take (vs.length - (-x).toNat)).toArray.size == vs.toArray.size then n else n + 1)) news news') (hx : x < 0) (hz : vs.length ≤ 1000)
    (h : ∀ h', Fr h₀ L h' m → News h₀ L h' news' → Q () { s with heap := h' }) :
    wpAny (model prog w) A (setItem (.ref l) (.ref s.heap.objs.size) (.ref b)) Q E { s with heap := s.heap.push { cls := .type "slice", data := .fields #[.int x t, .none, .none] } } := by
  obtain ⟨pre, post, rfl, rfl, p1, p2⟩ := U.split
  have N' := N.grown (h' := s.heap.push { cls := .type "slice", data := .fields #[.int x t, .none, .none] }) (fun _ _ e => Heap.get?_push_of_some _ e)
  have F' := F.push { cls := .type "slice", data := .fields #[.int x t, .none, .none] }
  have z := N' (l, listOf vs.toArray n) (List.mem_append.mpr (.inr (.head _)))
  refine setSlice_raw (s := { s with heap := s.heap.push { cls := .type "slice", data := .fields #[.int x t, .none, .none] } }) z.1 (Heap.IsSliceOf.new ..) (.int x t) (N' _ hb).1 hne (by simpa using hz) ?_
  exact h _ (F'.change (Heap.SameBut.update ..) z.2.1 z.2.2) (ki_turn _ N' p1 p2 (cut_is hx) rfl)
end
end Mine
end
section
theorem Mine.freshR3 : True := by
  run_tac (do PyProof.Rows.walkLines.set (0, {}); PyProof.Rows.walkHit.set {}; PyProof.Rows.walkTop.set false; PyProof.Rows.walkStart.set 0; PyProof.Rows.walkLate.set false)
  trivial
open PySem PySem.W PySem.Calls PyProof.Rows PySem.Spec
set_option Elab.async false
set_option maxRecDepth 100000
set_option maxHeartbeats 400000
set_option linter.unusedVariables false
set_option linter.unusedSimpArgs false
namespace Mine
section
variable {prog : Program} {w : World} {A : Around} {E : Value → Shared → Prop} {s : Shared} {h₀ : Heap} {L l a b : Addr} {m : Str → Option Value} {news news' : List (Addr × Obj)} {vs : List Value} {n n2 : Nat} {vl vu : Value} {x y : Int} {t u : Tok}
theorem len_any {Q : Value → Shared → Prop} (N : News h₀ L s.heap news) (hm : (l, listOf vs.toArray n) ∈ news) (hz : vs.length ≤ 1000) (h : Q (.int vs.length (s.toks + 1)) { s with toks := s.toks + 1 + 1 }) :
    wpAny (model prog w) A (call (.builtin "len") [.ref l]) Q E s := by
  refine call_len_list (IsL.isList (N _ hm).1) ?_ ?_
  · simp only [List.size_toArray]; omega
  · simpa using h
theorem truthy_any {Q : Bool → Shared → Prop} (N : News h₀ L s.heap news) (hm : (l, listOf vs.toArray n) ∈ news) (hz : vs.length ≤ 1000) (h : Q (!vs.isEmpty) { s with toks := s.toks + 1 + 1 }) :
    wpAny (model prog w) A (truthy (.ref l)) Q E s := by
  refine PySem.wpAny_truthy_list (IsL.isList (N _ hm).1) ?_ ?_
  · simp only [List.size_toArray]; omega
  · simpa using h
theorem pop_last {D : Addr} {v : Value} {Q : Value → Shared → Prop} (F : Fr h₀ L s.heap m) (N : News h₀ L s.heap news) (U : Upd D (listOf (vs ++ [v]).toArray n) (listOf vs.toArray (n + 1)) news news') (hz : vs.length ≤ 1000)
    (h : ∀ h', Fr h₀ L h' m → News h₀ L h' news' → Q v { s with heap := h' }) : wpAny (model prog w) A (call (.builtin "list.pop") [.ref D]) Q E s := by
  have sz : sizeLine = 16777216 := rfl
  refine kl_pop F N (by simpa using kpa_last v vs) U ?_ h
  simp only [List.length_append, List.length_cons, List.length_nil]
  omega
theorem pop_first {D : Addr} {v : Value} {u : Tok} {Q : Value → Shared → Prop} (F : Fr h₀ L s.heap m) (N : News h₀ L s.heap news) (U : Upd D (listOf (v :: vs).toArray n) (listOf vs.toArray (n + 1)) news news') (hz : vs.length ≤ 1000)
    (h : ∀ h', Fr h₀ L h' m → News h₀ L h' news' → Q v { s with heap := h' }) : wpAny (model prog w) A (call (.builtin "list.pop") [.ref D, .int 0 u]) Q E s := by
  have sz : sizeLine = 16777216 := rfl
  refine kl_popAt (p := []) (q := vs) (k := 0) F N (by decide +kernel) ?_ rfl U ?_ h
  · simp [seqIndex?]
  · simp only [List.length_cons]; omega
end
end Mine
end
section
theorem Mine.freshR4 : True := by
  run_tac (do PyProof.Rows.walkLines.set (0, {}); PyProof.Rows.walkHit.set {}; PyProof.Rows.walkTop.set false; PyProof.Rows.walkStart.set 0; PyProof.Rows.walkLate.set false)
  trivial
open PySem PySem.W PySem.Calls PyProof.Rows PySem.Spec
set_option Elab.async false
set_option maxRecDepth 100000
set_option maxHeartbeats 400000
set_option linter.unusedVariables false
set_option linter.unusedSimpArgs false
namespace Mine
section
variable {prog : Program} {w : World} {A₀ A : Around} {s : Shared} {base h₀ g₀ : Heap} {outer : List Env} {L a : Addr} {m : Str → Option Value} {cn : Str} {cs : Scope} {ccd : Value} {news : List (Addr × Obj)} {K : Frag} {p : Program} {loose : List Str} {mean : ExcName → Option Value} {mg mb : Str → Option Value}
    {R : Result → Shared → Prop} {name qual : Str} {params : Arguments} {body : List Stmt} {scope : Scope} {dV kV doc pm cdv ct oc : Value} {an od : Option Addr} {osl : Array (Option Value)} {f : Addr} {args : Args} {binds : List (Str × Value)} {env : Env}
theorem below_push {h : Heap} (K : Below A base outer h₀) (F : Fr h₀ L h m) (hf : env.frame = some L) (hl : env.locals = L) (hk : env.scope.kind = .function) : Below (A.deeper env) base (env :: outer) h := by
  have hnew : base.get? L = none := by
    cases hq : base.get? L with
    | none => rfl
    | some o => exact absurd (Nat.lt_of_lt_of_le (Heap.lt_size (K.stays L o hq)) F.above) (Nat.lt_irrefl _)
  refine ⟨Around.frames_deeper K.stack, fun b o e => F.keep b o (K.stays b o e), ?_⟩
  exact .cons (by rw [hk]; decide) hf F.ns hnew (K.frames.of_keeps fun b o e _ => ⟨o, F.keep b o e, rfl⟩)
theorem my_enter (B : Below A₀ base outer h₀) (F : Fr h₀ L s.heap m) (N : News h₀ L s.heap news) (hA : A.frames = some (env :: outer)) (hf : env.frame = some L) (hl : env.locals = L) (hck : env.scope.kind = .function) :
    ∃ oL es ep, (hideAll s.heap (news.map (·.1))).get? L = some oL ∧ oL.data = .dict es ep ∧ (∀ h', h'.get? L = some oL → Heap.Ns h' L m) ∧ (∀ (sl : Array (Option Value)) h', h'.get? L = some { oL with slots := sl } → Heap.Ns h' L m) ∧
      h₀.StaysIn (hideAll s.heap (news.map (·.1))) ∧ Below A base (env :: outer) (hideAll s.heap (news.map (·.1))) := by
  have nm : ∀ b o, h₀.get? b = some o → b ∉ news.map (·.1) := fun b o e q => by
    obtain ⟨p, hp, rfl⟩ := List.mem_map.mp q
    rw [(N p hp).2.2] at e; cases e
  have st : h₀.StaysIn (hideAll s.heap (news.map (·.1))) := fun b o e => hideAll_get _ (F.keep b o e) (nm b o e)
  obtain ⟨oL, es, ep, hL, hLd, hLk, hLf⟩ := F.ns
  have nL : L ∉ news.map (·.1) := fun q => by
    obtain ⟨p, hp, e⟩ := List.mem_map.mp q
    exact (N p hp).2.1 e
  have hLg := hideAll_get (news.map (·.1)) hL nL
  have B₁ := below_push B F hf hl hck
  exact ⟨oL, es, ep, hLg, hLd, fun h' e => ⟨oL, es, ep, e, hLd, hLk, hLf⟩, fun sl h' e => ⟨_, es, ep, e, hLd, hLk, hLf⟩, st, ⟨hA, fun b o e => st b o (B.stays b o e), funFrames_hideAll B₁.frames fun env' he b hb hf' => by
    cases he with
    | head => exact nL ((Option.some.inj (hf ▸ hf') : L = b) ▸ hb)
    | tail _ he =>
      obtain ⟨L₁, o₁, hf₁, ho₁⟩ := funFrames_in B.frames env' he
      rw [hf₁] at hf'
      exact nm L₁ o₁ ho₁ ((Option.some.inj hf' : L₁ = b) ▸ hb)⟩⟩
theorem my_defS0 (B : Below A₀ base [] h₀) (F : Fr h₀ L s.heap m) (X₀ : K.In h₀) (N : News h₀ L s.heap news) (T : Top p loose mean mg mb h₀) (hA : A.frames = some [env]) (hf : env.frame = some L) (hl : env.locals = L) (hck : env.scope.kind = .function)
    (ho : K.lookup f = some ⟨oc, od, .func (fnOf name qual params body scope dV kV doc pm an cdv ct), osl⟩) (hcd : codeIn K cdv qual = true) (hroom : A.depth < recursionLimit)
    (hbind : BindsTo s (fnOf name qual params body scope dV kV doc pm an cdv ct) args binds) (hloc : ∀ y ∈ binds, scope.names.lookup y.1 = some .local)
    (h : ∀ g L' h₁, Fr h₀ L g m → Fr g L' h₁ (fun y => binds.reverse.lookup y) → News g L' h₁ news → Below A base [env] g → K.In g → Top p loose mean mg mb g → KtsDicts ([env].filterMap (·.frame)) g →
      wpAny (model prog w) (A.deeper (envOf qual scope L' f cdv)) (execs body (envOf qual scope L' f cdv))
        (fun fl s' => LeaveS0 ([env].filterMap (·.frame)) h₀ L m g R (match fl with | .ret v => v | _ => .none) s')
        (fun e s' => wpAny (model prog w) (A.deeper (envOf qual scope L' f cdv)) («leaving» (envOf qual scope L' f cdv) e) (fun _ s'' => R (.error e) s'') (fun e' s'' => R (.error e') s'') s')
        { s with heap := h₁, toks := s.toks + binds.length })
    (hco : scope.isCoroutine = false) (hgen : scope.isGenerator = false) (hk : scope.kind = .function)
    (hcell : ∀ x ∈ scope.names, x.2 ≠ .cell) : codeAny (model prog w) A (.call (.ref f) args) R s := by
  have X := X₀.keeps F.keep
  have hmem : ∀ b, b ∈ [env].filterMap (·.frame) → b = L := fun b hb => by
    simp only [List.filterMap_cons, hf, List.filterMap_nil, List.mem_singleton] at hb
    exact hb
  refine codeAny_call_def (fd := fnOf name qual params body scope dV kV doc pm an cdv ct) (body := body) (binds := binds) hroom (X _ _ ho) rfl (T.nolimit.keeps F.keep) (codeRec_of X hcd) rfl hbind hcell hloc (fun h₁ hns hk₁ => ?_) hco hgen hk
  obtain ⟨oL, es, ep, hLg, hLd, hN, hNs, st, B₂⟩ := my_enter B F N hA hf hl hck
  refine wpAny_mono (h _ s.heap.objs.size h₁ ⟨hN _ hLg, st, F.above⟩ ⟨hns, fun b o e => hk₁ b o (of_hideAll _ e), Nat.le_of_eq (hideAll_size _ _)⟩
    (fun p hp => ⟨hk₁ _ _ (N p hp).1, Nat.ne_of_lt (Heap.lt_size (N p hp).1), hideAll_none _ (List.mem_map_of_mem hp)⟩) B₂ (X₀.keeps st) (T.keeps st) (fun b hb => by
      rw [hmem b hb]
      exact ⟨oL, es, ep, hLg, hLd⟩)) (fun fl s' hl' => ?_) fun _ _ y => y
  obtain ⟨g', L', m', news', T', F', N', k⟩ := hl'
  have nL₀ : h₀.get? L = none := kts_self F
  obtain ⟨sl, hs⟩ := T'.up hLg
  refine k ⟨hNs sl _ (F'.keep _ _ hs), fun b o e => F'.keep b o (T'.other b o (st b o e) (fun q => by
    rw [hmem b q, nL₀] at e
    cases e)), F.above⟩ fun p hp => ⟨(N' p hp).1, fun q => ?_, ?_⟩
  · have := (N' p hp).2.2; rw [q, hs] at this; cases this
  · cases q : h₀.get? p.1 with
    | none => rfl
    | some o =>
      obtain ⟨sl', hs'⟩ := T'.up (st _ _ q)
      have := (N' p hp).2.2
      rw [hs'] at this
      cases this
end
end Mine
end
section
theorem Mine.freshR5 : True := by
  run_tac (do PyProof.Rows.walkLines.set (0, {}); PyProof.Rows.walkHit.set {}; PyProof.Rows.walkTop.set false; PyProof.Rows.walkStart.set 0; PyProof.Rows.walkLate.set false)
  trivial
open PySem PySem.W PySem.Calls PyProof.Rows PySem.Spec PyProof.Rows.LCg
set_option Elab.async false
set_option maxRecDepth 100000
set_option maxHeartbeats 400000
set_option linter.unusedVariables false
set_option linter.unusedSimpArgs false
namespace Mine
inductive Secs (news : List (Addr × Obj)) : List Value → List Value → Prop
  | nil : Secs news [] []
  | cons {t : Addr} {a x : Value} {k : Nat} {vs ss : List Value} (h : (t, ({ cls := .type "tuple", data := .seq #[a, x] k } : Obj)) ∈ news) (r : Secs news vs ss) : Secs news (.ref t :: vs) (x :: ss)
theorem Secs.mono {news news' : List (Addr × Obj)} {vs ss : List Value} (h : Secs news vs ss) (hs : ∀ p ∈ news, p ∈ news') : Secs news' vs ss := by
  induction h with
  | nil => exact .nil
  | cons hm _ ih => exact .cons (hs _ hm) ih
theorem Secs.length {news : List (Addr × Obj)} {vs ss : List Value} (h : Secs news vs ss) : ss.length = vs.length := by
  induction h with
  | nil => rfl
  | cons _ _ ih => simp [ih]
section
variable {prog : Program} {w : World} {A : Around} {E : Value → Shared → Prop} {s : Shared} {h₀ : Heap} {L : Addr} {m : Str → Option Value} {env : Env}
theorem rest_snd {x x₂ : Str} {px : Pos} {scope : Scope} {cl : List (Str × Addr)} {S : List (Addr × Obj) → Prop} {its : Array Value} {Fin : List Value → List (Addr × Obj) → Prop} {news : List (Addr × Obj)}
    (hk : (relabel scope env).kind = .function) (hx : (relabel scope env).names.lookup x₂ = some .local) (hd : (x₂ == ("__debug__" : Str)) = false) (hS : S news) :
    ∀ (vs ss : List Value) (i : Nat) (ys : List Value), Secs news vs ss → (∀ j v, its[i + j]? = some v → vs[j]? = some v) → Fin (ys ++ ss) news →
      LCp.CompRestP prog w A h₀ L m env (.Name x₂ px) x x₂ scope cl s S (fun i v => its[i]? = some v) Fin vs.length i ys news := by
  intro vs
  induction vs with
  | nil =>
    intro ss i ys h _ hF
    cases h
    rw [List.append_nil] at hF
    exact LCp.CompRestP.zero hF
  | cons v r ih =>
    intro ss i ys h hit hF
    cases h with
    | @cons t a x' k _ ss' hm hr =>
    refine LCp.CompRestP.succ ?_
    intro v' hv'
    have e0 := hit 0 v' (by simpa using hv')
    simp only [List.getElem?_cons_zero, Option.some.injEq] at e0
    subst e0
    refine ⟨t, _, a, x', k, rfl, hm, rfl, rfl, ?_⟩
    intro I oI C oC D m₂ h tk E' hC hx1 hx2 F N off ne
    refine wpAny_Name (wpAny_loadName_local hk hx (hC.ns (N (C, oC) (.tail _ (.head _))).1) hx2 ?_) hd
    refine CompEnd.intro F N news (fun p hp => hp) off hS ?_
    exact ih ss' (i + 1) (ys ++ [x']) hr (fun j v hj => by
      have := hit (j + 1) v (by rw [show i + (j + 1) = i + 1 + j by omega]; exact hj)
      simpa using this) (by simpa using hF)
end
end Mine
end
section
theorem Mine.freshR7 : True := by
  run_tac (do PyProof.Rows.walkLines.set (0, {}); PyProof.Rows.walkHit.set {}; PyProof.Rows.walkTop.set false; PyProof.Rows.walkStart.set 0; PyProof.Rows.walkLate.set false)
  trivial
open PySem PySem.W PySem.Calls PyProof.Rows PySem.Spec
set_option Elab.async false
set_option maxRecDepth 100000
set_option maxHeartbeats 400000
set_option linter.unusedVariables false
set_option linter.unusedSimpArgs false
namespace Mine
section
variable {prog : Program} {w : World} {A : Around} {E : Value → Shared → Prop} {s : Shared} {h₀ : Heap} {L l a b : Addr} {m : Str → Option Value} {news : List (Addr × Obj)} {vs ws : List Value} {n n2 n3 n4 : Nat} {Q : Value → Shared → Prop}
theorem add_any (F : Fr h₀ L s.heap m) (N : News h₀ L s.heap news) (ha : (a, listOf vs.toArray n) ∈ news) (hb : (b, listOf ws.toArray n2) ∈ news) (hz : vs.length + ws.length ≤ 1000)
    (h : ∀ D h', Fr h₀ L h' m → News h₀ L h' ((D, listOf (vs ++ ws).toArray 0) :: news) → (∀ p ∈ news, p.1 < D) → Q (.ref D) { s with heap := h' }) : wpAny (model prog w) A (binaryOp .Add (.ref a) (.ref b)) Q E s := by
  have sz : sizeLine = 16777216 := rfl
  exact kmk_add_lit F N (IsL.isList (N _ ha).1) (IsL.isList (N _ hb).1) (by simp) h (by simp; omega)
theorem ne_same_list (N : News h₀ L s.heap news) (ha : (a, listOf vs.toArray n) ∈ news) (hb : (b, listOf vs.toArray n2) ∈ news) (hu : A.units + 64 < cLine) (h : Q (.bool false) s) :
    wpAny (model prog w) A (compareOp .NotEq (.ref a) (.ref b)) Q E s := by
  refine cmp_ofNotEq (SeqAt.RcNeAt.lists (e := fun _ => true) (IsL.isList (N _ ha).1) (IsL.isList (N _ hb).1) rfl (Nat.lt_of_le_of_lt (Nat.le_add_right _ _) hu) (fun j h1 h2 => SeqAt.EqAt.same _) prog w E Q ?_)
  have : ((List.range vs.toArray.size).all fun _ => true) = true := by simp
  rw [this]
  exact h
theorem eq_same_list (N : News h₀ L s.heap news) (ha : (a, listOf vs.toArray n) ∈ news) (hb : (b, listOf vs.toArray n2) ∈ news) (hu : A.units + 64 < cLine) : SeqAt.RcAt A s (.ref a) (.ref b) true := by
  have := SeqAt.RcAt.lists (A := A) (e := fun _ => true) (IsL.isList (N _ ha).1) (IsL.isList (N _ hb).1) rfl (Nat.lt_of_le_of_lt (Nat.le_add_right _ _) hu) (fun j h1 h2 => SeqAt.EqAt.same _)
  have e : ((List.range vs.toArray.size).all fun _ => true) = true := by simp
  rwa [e] at this
theorem ne_same_tuple {its : Array Value} (N : News h₀ L s.heap news) (ha : (a, ({ cls := .type "tuple", data := .seq its n } : Obj)) ∈ news) (hu : A.units + 64 < cLine) (h : Q (.bool false) s) :
    wpAny (model prog w) A (compareOp .NotEq (.ref a) (.ref a)) Q E s := by
  have ht : s.heap.IsTuple a its := ⟨_, (N _ ha).1, rfl, _, rfl⟩
  refine cmp_ofNotEq (SeqAt.RcNeAt.tuples (e := fun _ => true) ht ht (Nat.lt_of_le_of_lt (Nat.le_add_right _ _) hu) (fun j h1 h2 => SeqAt.EqAt.same _) prog w E Q ?_)
  have : (!((List.range (min its.size its.size)).all (fun _ => true) && its.size == its.size)) = false := by simp
  rw [this]
  exact h
theorem ne_pair {O O2 : Addr} {p : Int} {t t2 : Tok} (N : News h₀ L s.heap news) (ha : (a, ({ cls := .type "tuple", data := .seq #[.int p t, .ref O] n } : Obj)) ∈ news) (hb : (b, ({ cls := .type "tuple", data := .seq #[.int p t2, .ref O2] n2 } : Obj)) ∈ news)
    (hO : (O, listOf vs.toArray n3) ∈ news) (hO2 : (O2, listOf vs.toArray n4) ∈ news) (hne : @Ne Nat O O2) (hu : A.units + 64 < cLine) (h : Q (.bool false) s) :
    wpAny (model prog w) A (compareOp .NotEq (.ref a) (.ref b)) Q E s := by
  have ht : s.heap.IsTuple a #[.int p t, .ref O] := ⟨_, (N _ ha).1, rfl, _, rfl⟩
  have ht2 : s.heap.IsTuple b #[.int p t2, .ref O2] := ⟨_, (N _ hb).1, rfl, _, rfl⟩
  have hu2 : A.in1.units + 63 < cLine := by
    have : A.in1.units = A.units + 1 := rfl
    omega
  refine cmp_ofNotEq (SeqAt.RcNeAt.tuples (e := fun _ => true) ht ht2 (Nat.lt_of_le_of_lt (Nat.le_add_right _ _) hu) (fun j h1 h2 => ?_) prog w E Q h)
  match j, h1, h2 with
  | 0, _, _ =>
    have := SeqAt.EqAt.int_int (A := A.in1) (s := s) p t p t2
    rwa [beq_self_eq_true] at this
  | 1, _, _ =>
    refine SeqAt.EqAt.of_refs hne ?_
    have := SeqAt.RcAt.lists (A := A.in1) (e := fun _ => true) (IsL.isList (N _ hO).1) (IsL.isList (N _ hO2).1) rfl (Nat.lt_of_le_of_lt (Nat.le_add_right _ _) hu2) (fun j h1 h2 => SeqAt.EqAt.same _)
    have e : ((List.range vs.toArray.size).all fun _ => true) = true := by simp
    rwa [e] at this
end
end Mine
end
section
theorem Mine.freshR8 : True := by
  run_tac (do PyProof.Rows.walkLines.set (0, {}); PyProof.Rows.walkHit.set {}; PyProof.Rows.walkTop.set false; PyProof.Rows.walkStart.set 0; PyProof.Rows.walkLate.set false)
  trivial
open PySem PySem.W PySem.Calls PyProof.Rows PySem.Spec PyProof.Rows.LCg
set_option Elab.async false
set_option maxRecDepth 100000
set_option maxHeartbeats 400000
set_option linter.unusedVariables false
set_option linter.unusedSimpArgs false
namespace Mine
section
variable {prog : Program} {w : World} {A : Around} {E : Value → Shared → Prop} {s : Shared} {h₀ : Heap} {L : Addr} {m : Str → Option Value} {env : Env}
theorem rest_item1 {x : Str} {px pc ps : Pos} {scope : Scope} {cl : List (Str × Addr)} {S : List (Addr × Obj) → Prop} {its : Array Value} {Fin : List Value → List (Addr × Obj) → Prop} {news : List (Addr × Obj)}
    (hk : (relabel scope env).kind = .function) (hx : (relabel scope env).names.lookup x = some .local) (hd : (x == ("__debug__" : Str)) = false) (hS : S news) :
    ∀ (vs ss : List Value) (i : Nat) (ys : List Value), Secs news vs ss → (∀ j v, its[i + j]? = some v → vs[j]? = some v) → Fin (ys ++ ss) news →
      LCg.CompRest prog w A h₀ L m env (.Subscript (.Name x px) (.Constant (.int 1) 0 pc) ps) x scope cl s S (fun i v => its[i]? = some v) Fin vs.length i ys news := by
  intro vs
  induction vs with
  | nil =>
    intro ss i ys h _ hF
    cases h
    rw [List.append_nil] at hF
    exact LCg.CompRest.zero hF
  | cons v r ih =>
    intro ss i ys h hit hF
    cases h with
    | @cons t a x' k _ ss' hm hr =>
    refine LCg.CompRest.succ ?_
    intro v' I oI C oC D m₂ h tk E' hv' hC hx2 F N off ne
    have e0 := hit 0 v' (by simpa using hv')
    simp only [List.getElem?_cons_zero, Option.some.injEq] at e0
    subst e0
    refine Subscript_ ?_
    refine wpAny_Name (wpAny_loadName_local hk hx (hC.ns (N (C, oC) (.tail _ (.head _))).1) hx2 ?_) hd
    refine wpAny_Constant_int ?_
    refine item_tupleT (l := [a, x']) (j := 1) (x := x') (News.isTup N (.tail _ (.tail _ (.tail _ hm)))) (by decide) (by decide) (by rfl) (by rfl) ?_
    refine CompEnd.intro F N news (fun p hp => hp) off hS ?_
    exact ih ss' (i + 1) (ys ++ [x']) hr (fun j v hj => by
      have := hit (j + 1) v (by rw [show i + (j + 1) = i + 1 + j by omega]; exact hj)
      simpa using this) (by simpa using hF)
theorem ne_pairL {a b O O2 : Addr} {news : List (Addr × Obj)} {p : Int} {t t2 : Tok} {n n2 : Nat} {us us2 : List Value} {Q : Value → Shared → Prop} (N : News h₀ L s.heap news) (ha : (a, ({ cls := .type "tuple", data := .seq #[Value.int p t, .ref O] n } : Obj)) ∈ news) (hb : (b, ({ cls := .type "tuple", data := .seq #[Value.int p t2, .ref O2] n2 } : Obj)) ∈ news)
    (hO : (O, LCg.lst us) ∈ news) (hO2 : (O2, LCg.lst us2) ∈ news) (hus : us2 = us) (hne : @Ne Nat O O2) (hu : A.units + 64 < cLine) (h : Q (.bool false) s) :
    wpAny (model prog w) A (compareOp .NotEq (.ref a) (.ref b)) Q E s := by
  subst hus
  exact ne_pair N ha hb hO hO2 hne hu h
end
end Mine
end
section
theorem Mine.freshP3 : True := by
  run_tac (do PyProof.Rows.walkLines.set (0, {}); PyProof.Rows.walkHit.set {}; PyProof.Rows.walkTop.set false; PyProof.Rows.walkStart.set 0; PyProof.Rows.walkLate.set false)
  trivial
open PySem PySem.W PySem.Calls PyProof.Rows
set_option Elab.async false
set_option maxRecDepth 100000
set_option maxHeartbeats 400000
set_option linter.unusedVariables false
set_option linter.unusedSimpArgs false
namespace Mine
local macro_rules | `(tactic| walk_at "last subscriptTail") => `(tactic| (k_here; (with_reducible show wpAny _ _ (subscriptTail _ (PySem.Expr.Slice _ _ none _) (Value.ref _) (Value.ref _)) _ _ _); k_dflt (refine' slice_any ?F ?N ?l ?p ?q ?e ?_ ?s ?t ?z; (case F => k_asm); (case N => k_asm); (case l => k_mem); (case p => kmk_part); (case q => kmk_part); (case e => (first | exact pick_from (by omega) | exact pick_upto (by omega) | exact pick_neg (by first | omega | (refine Int.neg_neg_of_pos ?_; omega)))); (case s => with_unfolding_all rfl); (case t => kmk_pure); (case z => (first | assumption | omega | (simp only [List.length_cons, List.length_nil, List.length_append, List.length_take, List.length_drop]; omega)))); intro D' h' F' N' l1; (try k_lt l1); (try k_sweep)))
local macro_rules | `(tactic| walk_at "subscriptTail Name Slice ref ref") => `(tactic| (k_here; (with_reducible show wpAny _ _ (subscriptTail _ (PySem.Expr.Slice _ _ none _) (Value.ref _) (Value.ref _)) _ _ _); k_dflt (refine' slice_any ?F ?N ?l ?p ?q ?e ?_ ?s ?t ?z; (case F => k_asm); (case N => k_asm); (case l => k_mem); (case p => kmk_part); (case q => kmk_part); (case e => (first | exact pick_from (by omega) | exact pick_upto (by omega) | exact pick_neg (by first | omega | (refine Int.neg_neg_of_pos ?_; omega)))); (case s => with_unfolding_all rfl); (case t => kmk_pure); (case z => (first | assumption | omega | (simp only [List.length_cons, List.length_nil, List.length_append, List.length_take, List.length_drop]; omega)))); intro D' h' F' N' l1; (try k_lt l1); (try k_sweep)))
local macro_rules | `(tactic| walk_at "setItem ref") => `(tactic| (k_here; k_dflt (refine' setSlice_neg ?F ?N ?b ?ne ?U ?x ?z ?_; (case F => k_asm); (case N => k_asm); (case b => k_mem); (case ne => k_ne); (case U => k_upd); (case x => (first | omega | (refine Int.neg_neg_of_pos ?_; omega))); (case z => (first | assumption | omega | (simp only [List.length_cons, List.length_nil, List.length_append, List.length_take, List.length_drop]; omega)))); intro h' F' N'; (try k_sweep)))
local macro_rules | `(tactic| walk_at "call builtin:len") => `(tactic| (k_here; (with_reducible show wpAny _ _ (call (Value.builtin "len") [Value.ref _]) _ _ _); k_dflt (refine' len_any ?N ?m ?z ?_; (case N => k_asm); (case m => k_mem); (case z => (first | assumption | omega | (simp only [List.length_cons, List.length_nil, List.length_append, List.length_take, List.length_drop]; omega))))))
local macro_rules | `(tactic| walk_at "truthy ref") => `(tactic| (k_here; k_dflt (refine' truthy_any ?N ?m ?z ?_; (case N => k_asm); (case m => k_mem); (case z => (first | assumption | omega | (simp only [List.length_cons, List.length_nil, List.length_append, List.length_take, List.length_drop]; omega)))); (try simp only [List.isEmpty_cons, List.isEmpty_nil, Bool.not_false, Bool.not_true])))
local macro_rules | `(tactic| walk_at "call builtin:list.pop") => `(tactic| (k_here; k_dflt (first | (refine' pop_last ?F ?N ?U ?z ?_; (case F => k_asm); (case N => k_asm); (case U => k_upd); (case z => (first | assumption | omega | (simp only [List.length_cons, List.length_nil, List.length_append, List.length_take, List.length_drop]; omega)))) | (refine' pop_first ?F ?N ?U ?z ?_; (case F => k_asm); (case N => k_asm); (case U => k_upd); (case z => (first | assumption | omega | (simp only [List.length_cons, List.length_nil, List.length_append, List.length_take, List.length_drop]; omega))))); intro h' F' N'; (try k_sweep)))
local macro_rules | `(tactic| walk_at "pyReprObj str") => `(tactic| (refine pyReprObj_str (hx := ?hx) ?_; (case hx => (rw [PySem.sizeLine_eq]; omega))))
local macro_rules | `(tactic| walk_at "compareOp NotEq str str") => `(tactic| first | refine ne_strs_true (by assumption) ?_ | refine ne_strs_false ?_)
local macro_rules | `(tactic| walk_at "SrcLP") => `(tactic| (k_here; k_dflt (refine LCp.SrcLP.ledger (by rfl) (by k_asm) (by k_asm) (by k_mem) (by (simp only [List.size_toArray, PySem.sizeLine_eq]; omega)) ?_; intro g'; (rename Secs _ _ _ => hsec'); refine rest_snd (by rfl) (by rfl) (by decide) (.inr ⟨_, by k_mem, rfl, _, rfl⟩) _ _ 0 [] (hsec'.mono (fun p hp => (by simp only [List.mem_cons]; first | exact hp | exact .inr hp | exact .inr (.inr hp) | exact .inr (.inr (.inr hp)) | exact .inr (.inr (.inr (.inr hp))) | exact .inr (.inr (.inr (.inr (.inr hp))))))) (fun j v hj => by simpa using hj) ?_); intro D' h' tk' F' N' off'; (try simp only [LCg.Off1] at off')))
local macro_rules | `(tactic| walk_at "call builtin:len") => `(tactic| (k_here; (with_reducible show wpAny _ _ (call (Value.builtin "len") [Value.ref _]) _ _ _); k_dflt (refine' len_ba_K ?N ?m ?_; (case N => k_asm); (case m => k_mem))))
local macro_rules | `(tactic| walk_at "compareOp In int bytes") => `(tactic| (k_here; refine in_bytes_true (by decide +kernel) (by decide +kernel) (by decide +kernel) ?_))
local macro_rules | `(tactic| walk_at "truthy bytes") => `(tactic| (k_here; refine truthy_b0 ?_))
local macro_rules | `(tactic| walk_at "UnrEnd") => `(tactic| (k_here; k_dflt (refine UnrEnd.intro (by assumption) (by assumption) _ (fun p hp => hp) (my_off (by assumption)) ?_)))
local macro_rules | `(tactic| walk_at "exec While UnaryOp cons nil") => `(tactic| (k_here; k_dflt (refine whl_start 4 ?_)))
local macro_rules | `(tactic| k_all) => `(tactic| assumption)
section
variable {w : World} {E : Value → Shared → Prop} {Q : Value → Shared → Prop} {s : Shared} {h₀ : Heap} {L fa : Addr} {cd : Value} {m : Str → Option Value} {nm : List (Str × NameKind)} {b1 b2 : Bool} {mr : List (Str × Const)} {cn : Str}
  {p : Program} {loose : List Str} {mean : ExcName → Option Value} {mg mb : Str → Option Value} {rest : List (Addr × Obj)} {P D CX CU RS TK FP FD BA PM : Addr} {vs cxs rs : List Value} {n n2 n3 : Nat} {d : PD} {v v2 : Value}
theorem pop0 {k j : Nat} {tk : Tok} (B : Below callerA h₀ [] h₀) (F : Fr h₀ L s.heap m) (X : (K w.params).In h₀) (T : Top p loose mean mg mb h₀)
    (N : News h₀ L s.heap ((P, instObj 1367 D) :: (D, dictOf (d.es w) 13) :: (CU, listOf vs.toArray n) :: rest)) (hcurstack : d.curstack = .ref CU)
    (hP : ∀ p ∈ rest, p.1 ≠ P) (hD : ∀ p ∈ rest, p.1 ≠ D) (hCU : ∀ p ∈ rest, p.1 ≠ CU) (hPD : @Ne Nat P D) (hPCU : @Ne Nat P CU) (hDCU : @Ne Nat D CU)
    (hk : 1 ≤ k) (hvs : vs.length ≤ 900) (hj : (-(-(k : Int))).toNat = j)
    (h : ∀ h' tk R n', Fr h₀ L h' m → News h₀ L h' ((R, listOf (vs.drop (vs.length - j)).toArray 0) :: (P, instObj 1367 D) :: (D, dictOf (d.es w) 13) :: (CU, listOf (vs.take (vs.length - j)).toArray n') :: rest) →
      (P < R ∧ D < R ∧ CU < R ∧ AllLt R rest) → Q (.ref R) { s with heap := h', toks := tk }) :
    wpAny (model PySem.Challenge.rw_ae5031_04.row.prog w) (callerA.deeper (envOfC cn ⟨.function, nm, b1, b2, mr⟩ L fa cd)) (call (.ref 1326) [.ref P, .int (k : Int) tk] []) Q E s := by
  revert X; k_fill; intro X
  obtain ⟨fp, eof, bufpos, buf, charpos, parse1, curtoken, curtokenpos, tokens, context, curtype, curstack, results, t1, t2, t3, t4, t5, t6, t7, t8, t9, t10, t11, t12, t13⟩ := d
  dsimp only at hcurstack
  dsimp only [PD.es] at N
  subst hcurstack
  subst hj
  refine wpAny_call ?_
  k_enter
  k_steps
  exact h _ _ _ _ (by assumption) (fun p hp => (by assumption : News _ _ _ _) p (.tail _ hp)) (by assumption)
end
end Mine
end
section
theorem Mine.freshP4 : True := by
  run_tac (do PyProof.Rows.walkLines.set (0, {}); PyProof.Rows.walkHit.set {}; PyProof.Rows.walkTop.set false; PyProof.Rows.walkStart.set 0; PyProof.Rows.walkLate.set false)
  trivial
open PySem PySem.W PySem.Calls PyProof.Rows
set_option Elab.async false
set_option maxRecDepth 100000
set_option maxHeartbeats 400000
set_option linter.unusedVariables false
set_option linter.unusedSimpArgs false
namespace Mine
local macro_rules | `(tactic| walk_at "last subscriptTail") => `(tactic| (k_here; (with_reducible show wpAny _ _ (subscriptTail _ (PySem.Expr.Slice _ _ none _) (Value.ref _) (Value.ref _)) _ _ _); k_dflt (refine' slice_any ?F ?N ?l ?p ?q ?e ?_ ?s ?t ?z; (case F => k_asm); (case N => k_asm); (case l => k_mem); (case p => kmk_part); (case q => kmk_part); (case e => (first | exact pick_from (by omega) | exact pick_upto (by omega) | exact pick_neg (by first | omega | (refine Int.neg_neg_of_pos ?_; omega)))); (case s => with_unfolding_all rfl); (case t => kmk_pure); (case z => (first | assumption | omega | (simp only [List.length_cons, List.length_nil, List.length_append, List.length_take, List.length_drop]; omega)))); intro D' h' F' N' l1; (try k_lt l1); (try k_sweep)))
local macro_rules | `(tactic| walk_at "subscriptTail Name Slice ref ref") => `(tactic| (k_here; (with_reducible show wpAny _ _ (subscriptTail _ (PySem.Expr.Slice _ _ none _) (Value.ref _) (Value.ref _)) _ _ _); k_dflt (refine' slice_any ?F ?N ?l ?p ?q ?e ?_ ?s ?t ?z; (case F => k_asm); (case N => k_asm); (case l => k_mem); (case p => kmk_part); (case q => kmk_part); (case e => (first | exact pick_from (by omega) | exact pick_upto (by omega) | exact pick_neg (by first | omega | (refine Int.neg_neg_of_pos ?_; omega)))); (case s => with_unfolding_all rfl); (case t => kmk_pure); (case z => (first | assumption | omega | (simp only [List.length_cons, List.length_nil, List.length_append, List.length_take, List.length_drop]; omega)))); intro D' h' F' N' l1; (try k_lt l1); (try k_sweep)))
local macro_rules | `(tactic| walk_at "setItem ref") => `(tactic| (k_here; k_dflt (refine' setSlice_neg ?F ?N ?b ?ne ?U ?x ?z ?_; (case F => k_asm); (case N => k_asm); (case b => k_mem); (case ne => k_ne); (case U => k_upd); (case x => (first | omega | (refine Int.neg_neg_of_pos ?_; omega))); (case z => (first | assumption | omega | (simp only [List.length_cons, List.length_nil, List.length_append, List.length_take, List.length_drop]; omega)))); intro h' F' N'; (try k_sweep)))
local macro_rules | `(tactic| walk_at "call builtin:len") => `(tactic| (k_here; (with_reducible show wpAny _ _ (call (Value.builtin "len") [Value.ref _]) _ _ _); k_dflt (refine' len_any ?N ?m ?z ?_; (case N => k_asm); (case m => k_mem); (case z => (first | assumption | omega | (simp only [List.length_cons, List.length_nil, List.length_append, List.length_take, List.length_drop]; omega))))))
local macro_rules | `(tactic| walk_at "truthy ref") => `(tactic| (k_here; k_dflt (refine' truthy_any ?N ?m ?z ?_; (case N => k_asm); (case m => k_mem); (case z => (first | assumption | omega | (simp only [List.length_cons, List.length_nil, List.length_append, List.length_take, List.length_drop]; omega)))); (try simp only [List.isEmpty_cons, List.isEmpty_nil, Bool.not_false, Bool.not_true])))
local macro_rules | `(tactic| walk_at "call builtin:list.pop") => `(tactic| (k_here; k_dflt (first | (refine' pop_last ?F ?N ?U ?z ?_; (case F => k_asm); (case N => k_asm); (case U => k_upd); (case z => (first | assumption | omega | (simp only [List.length_cons, List.length_nil, List.length_append, List.length_take, List.length_drop]; omega)))) | (refine' pop_first ?F ?N ?U ?z ?_; (case F => k_asm); (case N => k_asm); (case U => k_upd); (case z => (first | assumption | omega | (simp only [List.length_cons, List.length_nil, List.length_append, List.length_take, List.length_drop]; omega))))); intro h' F' N'; (try k_sweep)))
local macro_rules | `(tactic| walk_at "pyReprObj str") => `(tactic| (refine pyReprObj_str (hx := ?hx) ?_; (case hx => (rw [PySem.sizeLine_eq]; omega))))
local macro_rules | `(tactic| walk_at "compareOp NotEq str str") => `(tactic| first | refine ne_strs_true (by assumption) ?_ | refine ne_strs_false ?_)
local macro_rules | `(tactic| walk_at "SrcLP") => `(tactic| (k_here; k_dflt (refine LCp.SrcLP.ledger (by rfl) (by k_asm) (by k_asm) (by k_mem) (by (simp only [List.size_toArray, PySem.sizeLine_eq]; omega)) ?_; intro g'; (rename Secs _ _ _ => hsec'); refine rest_snd (by rfl) (by rfl) (by decide) (.inr ⟨_, by k_mem, rfl, _, rfl⟩) _ _ 0 [] (hsec'.mono (fun p hp => (by simp only [List.mem_cons]; first | exact hp | exact .inr hp | exact .inr (.inr hp) | exact .inr (.inr (.inr hp)) | exact .inr (.inr (.inr (.inr hp))) | exact .inr (.inr (.inr (.inr (.inr hp))))))) (fun j v hj => by simpa using hj) ?_); intro D' h' tk' F' N' off'; (try simp only [LCg.Off1] at off')))
local macro_rules | `(tactic| walk_at "call builtin:len") => `(tactic| (k_here; (with_reducible show wpAny _ _ (call (Value.builtin "len") [Value.ref _]) _ _ _); k_dflt (refine' len_ba_K ?N ?m ?_; (case N => k_asm); (case m => k_mem))))
local macro_rules | `(tactic| walk_at "compareOp In int bytes") => `(tactic| (k_here; refine in_bytes_true (by decide +kernel) (by decide +kernel) (by decide +kernel) ?_))
local macro_rules | `(tactic| walk_at "truthy bytes") => `(tactic| (k_here; refine truthy_b0 ?_))
local macro_rules | `(tactic| walk_at "UnrEnd") => `(tactic| (k_here; k_dflt (refine UnrEnd.intro (by assumption) (by assumption) _ (fun p hp => hp) (my_off (by assumption)) ?_)))
local macro_rules | `(tactic| walk_at "exec While UnaryOp cons nil") => `(tactic| (k_here; k_dflt (refine whl_start 4 ?_)))
local macro_rules | `(tactic| k_all) => `(tactic| assumption)
section
variable {w : World} {E : Value → Shared → Prop} {Q : Value → Shared → Prop} {s : Shared} {h₀ : Heap} {L fa : Addr} {cd : Value} {m : Str → Option Value} {nm : List (Str × NameKind)} {b1 b2 : Bool} {mr : List (Str × Const)} {cn : Str}
  {p : Program} {loose : List Str} {mean : ExcName → Option Value} {mg mb : Str → Option Value} {rest : List (Addr × Obj)} {P D CX CU RS TK FP FD BA PM : Addr} {vs cxs rs : List Value} {n n2 n3 : Nat} {d : PD} {v v2 : Value}
theorem asked1 {r : Value} (B : Below callerA h₀ [] h₀) (F : Fr h₀ L s.heap m) (X : (K w.params).In h₀) (T : Top p loose mean mg mb h₀)
    (N : News h₀ L s.heap ((P, instObj 1367 D) :: (D, dictOf (d.es w) 13) :: (RS, listOf (r :: vs).toArray n3) :: rest)) (hresults : d.results = .ref RS)
    (hP : ∀ p ∈ rest, p.1 ≠ P) (hD : ∀ p ∈ rest, p.1 ≠ D) (hRS : ∀ p ∈ rest, p.1 ≠ RS) (hPD : @Ne Nat P D) (hPRS : @Ne Nat P RS) (hDRS : @Ne Nat D RS)
    (hvs : vs.length ≤ 900) (h : ∀ h' tk, Fr h₀ L h' m → News h₀ L h' ((P, instObj 1367 D) :: (D, dictOf (d.es w) 13) :: (RS, listOf vs.toArray (n3 + 1)) :: rest) → Q (r) { s with heap := h', toks := tk }) :
    wpAny (model PySem.Challenge.rw_ae5031_04.row.prog w) (callerA.deeper (envOfC cn ⟨.function, nm, b1, b2, mr⟩ L fa cd)) (call (.ref 1656) [.ref P] []) Q E s := by
  revert X; k_fill; intro X
  obtain ⟨fp, eof, bufpos, buf, charpos, parse1, curtoken, curtokenpos, tokens, context, curtype, curstack, results, t1, t2, t3, t4, t5, t6, t7, t8, t9, t10, t11, t12, t13⟩ := d
  dsimp only at hresults
  dsimp only [PD.es] at N
  subst hresults
  refine wpAny_call ?_
  (refine' my_defS0 ?k1 ?k2 ?k3 ?k4 ?k5 ?kA ?hf ?hl ?c1 ?k6 ?k7 ?k8 ?k9 ?kB ?_ ?c2 ?c3 ?c4 ?c5; (case kA => exact rfl); (case hf => exact rfl); (case hl => exact rfl); (case c1 => exact rfl); (case k2 => k_asm); (case k1 => k_asm); (case k3 => k_asm); (case k4 => k_asm); (case k5 => k_asm); (case k6 => k_is); (case k7 => k_is); (case k8 => k_room); (case k9 => first | exact binds_K (by k_in) rfl (by k_is) rfl rfl rfl | exact BindsTo.of_eq rfl); (case kB => exact locs rfl); (case c2 => exact rfl); (case c3 => exact rfl); (case c4 => exact rfl); (case c5 => decide); k_whole; intro g' L' h' FG' F' N' B' X' T' D'; (try dsimp only); (try k_lift B'); (try k_fold))
  k_steps
  first | exact h _ _ (by assumption) (fun p hp => (by assumption : News _ _ _ _) p (.tail _ hp)) | exact h _ _ (by assumption) (fun p hp => (by assumption : News _ _ _ _) p hp) | exact h _ _ (by assumption) (fun p hp => (by assumption : News _ _ _ _) p (.tail _ (.tail _ hp)))
theorem asked2 (B : Below callerA h₀ [] h₀) (F : Fr h₀ L s.heap m) (X : (K w.params).In h₀) (T : Top p loose mean mg mb h₀)
    (N : News h₀ L s.heap ((P, instObj 1367 D) :: (D, dictOf (d.es w) 13) :: (RS, listOf #[] n3) :: rest)) (hresults : d.results = .ref RS) (heof : d.eof = .bool true)
    (hP : ∀ p ∈ rest, p.1 ≠ P) (hD : ∀ p ∈ rest, p.1 ≠ D) (hRS : ∀ p ∈ rest, p.1 ≠ RS) (hPD : @Ne Nat P D) (hPRS : @Ne Nat P RS) (hDRS : @Ne Nat D RS)
    (h : ∀ h' tk, Fr h₀ L h' m → News h₀ L h' ((P, instObj 1367 D) :: (D, dictOf (d.es w) 13) :: (RS, listOf #[] n3) :: rest) → Q (.none) { s with heap := h', toks := tk }) :
    wpAny (model PySem.Challenge.rw_ae5031_04.row.prog w) (callerA.deeper (envOfC cn ⟨.function, nm, b1, b2, mr⟩ L fa cd)) (call (.ref 1656) [.ref P] []) Q E s := by
  revert X; k_fill; intro X
  obtain ⟨fp, eof, bufpos, buf, charpos, parse1, curtoken, curtokenpos, tokens, context, curtype, curstack, results, t1, t2, t3, t4, t5, t6, t7, t8, t9, t10, t11, t12, t13⟩ := d
  dsimp only at hresults heof
  dsimp only [PD.es] at N
  subst hresults heof
  refine wpAny_call ?_
  (refine' my_defS0 ?k1 ?k2 ?k3 ?k4 ?k5 ?kA ?hf ?hl ?c1 ?k6 ?k7 ?k8 ?k9 ?kB ?_ ?c2 ?c3 ?c4 ?c5; (case kA => exact rfl); (case hf => exact rfl); (case hl => exact rfl); (case c1 => exact rfl); (case k2 => k_asm); (case k1 => k_asm); (case k3 => k_asm); (case k4 => k_asm); (case k5 => k_asm); (case k6 => k_is); (case k7 => k_is); (case k8 => k_room); (case k9 => first | exact binds_K (by k_in) rfl (by k_is) rfl rfl rfl | exact BindsTo.of_eq rfl); (case kB => exact locs rfl); (case c2 => exact rfl); (case c3 => exact rfl); (case c4 => exact rfl); (case c5 => decide); k_whole; intro g' L' h' FG' F' N' B' X' T' D'; (try dsimp only); (try k_lift B'); (try k_fold))
  k_steps
  first | exact h _ _ (by assumption) (fun p hp => (by assumption : News _ _ _ _) p (.tail _ hp)) | exact h _ _ (by assumption) (fun p hp => (by assumption : News _ _ _ _) p hp) | exact h _ _ (by assumption) (fun p hp => (by assumption : News _ _ _ _) p (.tail _ (.tail _ hp)))
theorem ended_no {kd k2 : Str} {tkd tk2 : Tok} (B : Below callerA h₀ [] h₀) (F : Fr h₀ L s.heap m) (X : (K w.params).In h₀) (T : Top p loose mean mg mb h₀)
    (N : News h₀ L s.heap ((P, instObj 1367 D) :: (D, dictOf (d.es w) 13) :: rest)) (hcurtype : d.curtype = .str k2 tk2)
    (hP : ∀ p ∈ rest, p.1 ≠ P) (hD : ∀ p ∈ rest, p.1 ≠ D) (hPD : @Ne Nat P D)
    (hk : k2 ≠ kd) (hkd : (reprText kd).length ≤ 100) (hk2 : (reprText k2).length ≤ 100) (h : ∀ h' tk, Fr h₀ L h' m → News h₀ L h' ((P, instObj 1367 D) :: (D, dictOf (d.es w) 13) :: rest) → Q (.none) { s with heap := h', toks := tk }) :
    wpAny (model PySem.Challenge.rw_ae5031_04.row.prog w) (callerA.deeper (envOfC cn ⟨.function, nm, b1, b2, mr⟩ L fa cd)) (call (.ref 1649) [.ref P, .str kd tkd] []) Q E s := by
  revert X; k_fill; intro X
  obtain ⟨fp, eof, bufpos, buf, charpos, parse1, curtoken, curtokenpos, tokens, context, curtype, curstack, results, t1, t2, t3, t4, t5, t6, t7, t8, t9, t10, t11, t12, t13⟩ := d
  dsimp only at hcurtype
  dsimp only [PD.es] at N
  subst hcurtype
  refine wpAny_call ?_
  (refine' my_defS0 ?k1 ?k2 ?k3 ?k4 ?k5 ?kA ?hf ?hl ?c1 ?k6 ?k7 ?k8 ?k9 ?kB ?_ ?c2 ?c3 ?c4 ?c5; (case kA => exact rfl); (case hf => exact rfl); (case hl => exact rfl); (case c1 => exact rfl); (case k2 => k_asm); (case k1 => k_asm); (case k3 => k_asm); (case k4 => k_asm); (case k5 => k_asm); (case k6 => k_is); (case k7 => k_is); (case k8 => k_room); (case k9 => first | exact binds_K (by k_in) rfl (by k_is) rfl rfl rfl | exact BindsTo.of_eq rfl); (case kB => exact locs rfl); (case c2 => exact rfl); (case c3 => exact rfl); (case c4 => exact rfl); (case c5 => decide); k_whole; intro g' L' h' FG' F' N' B' X' T' D'; (try dsimp only); (try k_lift B'); (try k_fold))
  k_steps
  first | exact h _ _ (by assumption) (fun p hp => (by assumption : News _ _ _ _) p (.tail _ hp)) | exact h _ _ (by assumption) (fun p hp => (by assumption : News _ _ _ _) p hp) | exact h _ _ (by assumption) (fun p hp => (by assumption : News _ _ _ _) p (.tail _ (.tail _ hp)))
theorem ended_none {kd : Str} {tkd : Tok} (B : Below callerA h₀ [] h₀) (F : Fr h₀ L s.heap m) (X : (K w.params).In h₀) (T : Top p loose mean mg mb h₀)
    (N : News h₀ L s.heap ((P, instObj 1367 D) :: (D, dictOf (d.es w) 13) :: rest)) (hcurtype : d.curtype = .none)
    (hP : ∀ p ∈ rest, p.1 ≠ P) (hD : ∀ p ∈ rest, p.1 ≠ D) (hPD : @Ne Nat P D)
    (hkd : (reprText kd).length ≤ 100) (h : ∀ h' tk, Fr h₀ L h' m → News h₀ L h' ((P, instObj 1367 D) :: (D, dictOf (d.es w) 13) :: rest) → Q (.none) { s with heap := h', toks := tk }) :
    wpAny (model PySem.Challenge.rw_ae5031_04.row.prog w) (callerA.deeper (envOfC cn ⟨.function, nm, b1, b2, mr⟩ L fa cd)) (call (.ref 1649) [.ref P, .str kd tkd] []) Q E s := by
  revert X; k_fill; intro X
  obtain ⟨fp, eof, bufpos, buf, charpos, parse1, curtoken, curtokenpos, tokens, context, curtype, curstack, results, t1, t2, t3, t4, t5, t6, t7, t8, t9, t10, t11, t12, t13⟩ := d
  dsimp only at hcurtype
  dsimp only [PD.es] at N
  subst hcurtype
  refine wpAny_call ?_
  (refine' my_defS0 ?k1 ?k2 ?k3 ?k4 ?k5 ?kA ?hf ?hl ?c1 ?k6 ?k7 ?k8 ?k9 ?kB ?_ ?c2 ?c3 ?c4 ?c5; (case kA => exact rfl); (case hf => exact rfl); (case hl => exact rfl); (case c1 => exact rfl); (case k2 => k_asm); (case k1 => k_asm); (case k3 => k_asm); (case k4 => k_asm); (case k5 => k_asm); (case k6 => k_is); (case k7 => k_is); (case k8 => k_room); (case k9 => first | exact binds_K (by k_in) rfl (by k_is) rfl rfl rfl | exact BindsTo.of_eq rfl); (case kB => exact locs rfl); (case c2 => exact rfl); (case c3 => exact rfl); (case c4 => exact rfl); (case c5 => decide); k_whole; intro g' L' h' FG' F' N' B' X' T' D'; (try dsimp only); (try k_lift B'); (try k_fold))
  k_steps
  first | exact h _ _ (by assumption) (fun p hp => (by assumption : News _ _ _ _) p (.tail _ hp)) | exact h _ _ (by assumption) (fun p hp => (by assumption : News _ _ _ _) p hp) | exact h _ _ (by assumption) (fun p hp => (by assumption : News _ _ _ _) p (.tail _ (.tail _ hp)))
theorem ended_ok {kd : Str} {tkd tk2 tp : Tok} {pos : Int} {ct : Value} {C CB : Addr} {ss cs : List Value} (B : Below callerA h₀ [] h₀) (F : Fr h₀ L s.heap m) (X : (K w.params).In h₀) (T : Top p loose mean mg mb h₀)
    (N : News h₀ L s.heap ((P, instObj 1367 D) :: (D, dictOf (d.es w) 13) :: (CX, listOf (cs ++ [Value.ref C]).toArray n2) :: (CU, listOf vs.toArray n) :: (C, ({ cls := .type "tuple", data := .seq #[Value.int pos tp, ct, Value.ref CB] 0 } : Obj)) :: rest)) (hcurstack : d.curstack = .ref CU) (hcontext : d.context = .ref CX) (hcurtype : d.curtype = .str kd tk2)
    (hP : ∀ p ∈ rest, p.1 ≠ P) (hD : ∀ p ∈ rest, p.1 ≠ D) (hCX : ∀ p ∈ rest, p.1 ≠ CX) (hCU : ∀ p ∈ rest, p.1 ≠ CU) (hC : ∀ p ∈ rest, p.1 ≠ C) (hPD : @Ne Nat P D) (hPCX : @Ne Nat P CX) (hPCU : @Ne Nat P CU) (hPC : @Ne Nat P C) (hDCX : @Ne Nat D CX) (hDCU : @Ne Nat D CU) (hDC : @Ne Nat D C) (hCXCU : @Ne Nat CX CU) (hCXC : @Ne Nat CX C) (hCUC : @Ne Nat CU C)
    (hct : ct = .none ∨ ∃ k t, ct = .str k t) (hsec : Secs rest vs ss) (hvs : vs.length ≤ 900) (hcs : cs.length ≤ 900)
    (h : ∀ h' tk T O, Fr h₀ L h' m → News h₀ L h' ((T, ({ cls := .type "tuple", data := .seq #[Value.int pos tp, Value.ref O] 0 } : Obj)) :: (O, LCg.lst ss) :: (P, instObj 1367 D) :: (D, dictOf (PD.es w { d with curtype := ct, curstack := .ref CB }) 13) :: (CX, listOf cs.toArray (n2 + 1)) :: (CU, listOf vs.toArray n) :: (C, ({ cls := .type "tuple", data := .seq #[Value.int pos tp, ct, Value.ref CB] 0 } : Obj)) :: rest) →
      (@Ne Nat P O ∧ @Ne Nat D O ∧ @Ne Nat CX O ∧ @Ne Nat CU O ∧ @Ne Nat C O ∧ LCg.Off1 O rest) → (O < T ∧ P < T ∧ D < T ∧ CX < T ∧ CU < T ∧ C < T ∧ AllLt T rest) → Q (.ref T) { s with heap := h', toks := tk }) :
    wpAny (model PySem.Challenge.rw_ae5031_04.row.prog w) (callerA.deeper (envOfC cn ⟨.function, nm, b1, b2, mr⟩ L fa cd)) (call (.ref 1649) [.ref P, .str kd tkd] []) Q E s := by
  revert X; k_fill; intro X
  obtain ⟨fp, eof, bufpos, buf, charpos, parse1, curtoken, curtokenpos, tokens, context, curtype, curstack, results, t1, t2, t3, t4, t5, t6, t7, t8, t9, t10, t11, t12, t13⟩ := d
  dsimp only at hcurstack hcontext hcurtype
  dsimp only [PD.es] at N
  subst hcurstack hcontext hcurtype
  rcases hct with hct | ⟨ck, ctk, hct⟩
  all_goals subst hct
  all_goals
    refine wpAny_call ?_
    (refine' my_defS0 ?k1 ?k2 ?k3 ?k4 ?k5 ?kA ?hf ?hl ?c1 ?k6 ?k7 ?k8 ?k9 ?kB ?_ ?c2 ?c3 ?c4 ?c5; (case kA => exact rfl); (case hf => exact rfl); (case hl => exact rfl); (case c1 => exact rfl); (case k2 => k_asm); (case k1 => k_asm); (case k3 => k_asm); (case k4 => k_asm); (case k5 => k_asm); (case k6 => k_is); (case k7 => k_is); (case k8 => k_room); (case k9 => first | exact binds_K (by k_in) rfl (by k_is) rfl rfl rfl | exact BindsTo.of_eq rfl); (case kB => exact locs rfl); (case c2 => exact rfl); (case c3 => exact rfl); (case c4 => exact rfl); (case c5 => decide); k_whole; intro g' L' h' FG' F' N' B' X' T' D'; (try dsimp only); (try k_lift B'); (try k_fold))
    k_steps
    exact h _ _ _ _ (by assumption) (by assumption) (by assumption) (by assumption)
end
end Mine
end
section
theorem Mine.freshP5 : True := by
  run_tac (do PyProof.Rows.walkLines.set (0, {}); PyProof.Rows.walkHit.set {}; PyProof.Rows.walkTop.set false; PyProof.Rows.walkStart.set 0; PyProof.Rows.walkLate.set false)
  trivial
open PySem PySem.W PySem.Calls PyProof.Rows
set_option Elab.async false
set_option maxRecDepth 100000
set_option maxHeartbeats 4000000
set_option linter.unusedVariables false
set_option linter.unusedSimpArgs false
namespace Mine
structure Off3 (e T t : Addr) (l : List (Addr × Obj)) : Prop where
  a : ∀ q ∈ l, @Ne Nat q.1 e
  b : ∀ q ∈ l, @Ne Nat q.1 T
  c : ∀ q ∈ l, @Ne Nat q.1 t
theorem neN {a b : Addr} (h : @Ne Nat a b) : a ≠ b := h
theorem offN_mk {e : Addr} {l : List (Addr × Obj)} (h : ∀ q ∈ l, @Ne Nat q.1 e) : OffN e l := h
theorem off_map {e T t : Addr} {l l' : List (Addr × Obj)} (o : Off3 e T t l) (h : l'.map (·.1) = l.map (·.1)) : Off3 e T t l' := by
  have k : ∀ q ∈ l', ∃ r ∈ l, r.1 = q.1 := fun q hq => by
    have := List.mem_map_of_mem (f := (·.1)) hq
    rw [h] at this
    exact List.mem_map.mp this
  exact ⟨fun q hq => let ⟨r, hr, e⟩ := k q hq; e ▸ o.a r hr, fun q hq => let ⟨r, hr, e⟩ := k q hq; e ▸ o.b r hr, fun q hq => let ⟨r, hr, e⟩ := k q hq; e ▸ o.c r hr⟩
section
variable {M : Model} {A : Around} {E : Value → Shared → Prop} {s' : Shared} {base g : Heap} {outer : List Env} {L a e T t : Addr} {m : Str → Option Value} {name : Str} {scope : Scope} {cd : Value} {news old : List (Addr × Obj)} {oe oT ot : Obj} {cls : Value} {vs : List Value}
theorem bare_raiseX {env : Env} {pos : Pos} {Q : Flow → Shared → Prop} (hh : A.handled = some (.ref e)) (hf : env.frame = some L) (F : Fr g L s'.heap m) (N : News g L s'.heap ((e, oe) :: (T, oT) :: (t, ot) :: news)) (x : Exc0 e T t cls vs oe oT ot) (o : Off3 e T t old) (hm : news.map (·.1) = old.map (·.1))
    (h : ∀ h', Fr g L h' m → News g L h' ((e, oe) :: (T, Obj.mapFields (·.setIfInBounds 3 (rawInt L)) oT) :: (t, ot) :: news) → E (.ref e) { s' with heap := h' }) : wpAny M A (exec (.Raise none none pos) env) Q E s' :=
  bare_raise hh hf F N x (.head _) (.tail _ (.head _)) (.tail x.n1.symm (.head fun p hp => by
    rcases List.mem_cons.mp hp with rfl | hp
    · exact x.n3
    · exact (off_map o hm).b p hp)) h
theorem leave_heldX {Q : Unit → Shared → Prop} {g₀ : Heap} (K : Below A base outer g) (TT : KtsTurn (outer.filterMap (·.frame)) g₀ g) (F : Fr g L s'.heap m) (N : News g L s'.heap ((e, oe) :: (T, Obj.mapFields (·.setIfInBounds 3 (rawInt L)) oT) :: (t, ot) :: news)) (x : Exc0 e T t cls vs oe oT ot) (o : Off3 e T t old) (hm : news.map (·.1) = old.map (·.1))
    (hQ : ∀ h', RaisedS base g₀ outer e cls t vs news h' → RaisedK base outer e cls t vs news h' → g₀.UpToSlots h' → Q () { s' with heap := h' }) (hk : scope.kind = .function := by rfl) :
    wpAny M (A.deeper (envOf name scope L a cd)) («leaving» (envOf name scope L a cd) (.ref e)) Q E s' :=
  leave_heldS K TT F N x (.head _) (.tail _ (.head _)) (.tail _ (.tail _ (.head _))) (fun q hq => .tail _ (.tail _ (.tail _ hq))) (off_map o hm).a (off_map o hm).b (off_map o hm).c hQ hk
end
theorem iter_rangeX {prog : Program} {w : World} {A : Around} {E : Value → Shared → Prop} {s : Shared} {env : Env} {h₀ : Heap} {x : Str} {body : List Stmt} {Q : Flow → Shared → Prop} {r e T t : Addr} {cls : Value} {vs : List Value} {oe oT ot : Obj} {a₀ b₀ : Int} {t₀ u₀ v₀ : Tok} {n : Nat} {m₀ : Str → Option Value} {news : List (Addr × Obj)}
    (X : Exc0 e T t cls vs oe oT ot) (hh : A.handled = some (.ref e)) (hm : (e, oe) ∈ news) (hr : IsRange s.heap r a₀ b₀ 1 t₀ u₀ v₀) (hsmall : Builtin.Range.small a₀ b₀ 1 = true) (hn : Builtin.Range.rangeSize a₀ b₀ 1 = (n : Int)) (F : Fr h₀ env.locals s.heap m₀) (N : News h₀ env.locals s.heap news)
    (rest₀ : ∀ I : Addr, (∀ p ∈ news, p.1 < I) → RangeRestH prog w A E h₀ env x body Q s (e, oe) I a₀ n n 0 m₀ news) :
    wpAny (model prog w) A (pyIter (.ref r)) (fun it s₂ => LoopAtV prog w A h₀ env x body Q E it s₂) E s := iter_rangeH hh hm X.fld hr hsmall hn F N rest₀
local macro_rules | `(tactic| walk_at "last subscriptTail") => `(tactic| (k_here; (with_reducible show wpAny _ _ (subscriptTail _ (PySem.Expr.Slice _ _ none _) (Value.ref _) (Value.ref _)) _ _ _); k_dflt (refine' slice_any ?F ?N ?l ?p ?q ?e ?_ ?s ?t ?z; (case F => k_asm); (case N => k_asm); (case l => k_mem); (case p => kmk_part); (case q => kmk_part); (case e => (first | exact pick_from (by omega) | exact pick_upto (by omega) | exact pick_neg (by first | omega | (refine Int.neg_neg_of_pos ?_; omega)))); (case s => with_unfolding_all rfl); (case t => kmk_pure); (case z => (first | assumption | omega | (simp only [List.length_cons, List.length_nil, List.length_append, List.length_take, List.length_drop]; omega)))); intro D' h' F' N' l1; (try k_lt l1); (try k_sweep)))
local macro_rules | `(tactic| walk_at "subscriptTail Name Slice ref ref") => `(tactic| (k_here; (with_reducible show wpAny _ _ (subscriptTail _ (PySem.Expr.Slice _ _ none _) (Value.ref _) (Value.ref _)) _ _ _); k_dflt (refine' slice_any ?F ?N ?l ?p ?q ?e ?_ ?s ?t ?z; (case F => k_asm); (case N => k_asm); (case l => k_mem); (case p => kmk_part); (case q => kmk_part); (case e => (first | exact pick_from (by omega) | exact pick_upto (by omega) | exact pick_neg (by first | omega | (refine Int.neg_neg_of_pos ?_; omega)))); (case s => with_unfolding_all rfl); (case t => kmk_pure); (case z => (first | assumption | omega | (simp only [List.length_cons, List.length_nil, List.length_append, List.length_take, List.length_drop]; omega)))); intro D' h' F' N' l1; (try k_lt l1); (try k_sweep)))
local macro_rules | `(tactic| walk_at "setItem ref") => `(tactic| (k_here; k_dflt (refine' setSlice_neg ?F ?N ?b ?ne ?U ?x ?z ?_; (case F => k_asm); (case N => k_asm); (case b => k_mem); (case ne => k_ne); (case U => k_upd); (case x => (first | omega | (refine Int.neg_neg_of_pos ?_; omega))); (case z => (first | assumption | omega | (simp only [List.length_cons, List.length_nil, List.length_append, List.length_take, List.length_drop]; omega)))); intro h' F' N'; (try k_sweep)))
local macro_rules | `(tactic| walk_at "call builtin:len") => `(tactic| (k_here; (with_reducible show wpAny _ _ (call (Value.builtin "len") [Value.ref _]) _ _ _); k_dflt (refine' len_any ?N ?m ?z ?_; (case N => k_asm); (case m => k_mem); (case z => (first | assumption | omega | (simp only [List.length_cons, List.length_nil, List.length_append, List.length_take, List.length_drop]; omega))))))
local macro_rules | `(tactic| walk_at "truthy ref") => `(tactic| (k_here; k_dflt (refine' truthy_any ?N ?m ?z ?_; (case N => k_asm); (case m => k_mem); (case z => (first | assumption | omega | (simp only [List.length_cons, List.length_nil, List.length_append, List.length_take, List.length_drop]; omega)))); (try simp only [List.isEmpty_cons, List.isEmpty_nil, Bool.not_false, Bool.not_true])))
local macro_rules | `(tactic| walk_at "call builtin:list.pop") => `(tactic| (k_here; k_dflt (first | (refine' pop_last ?F ?N ?U ?z ?_; (case F => k_asm); (case N => k_asm); (case U => k_upd); (case z => (first | assumption | omega | (simp only [List.length_cons, List.length_nil, List.length_append, List.length_take, List.length_drop]; omega)))) | (refine' pop_first ?F ?N ?U ?z ?_; (case F => k_asm); (case N => k_asm); (case U => k_upd); (case z => (first | assumption | omega | (simp only [List.length_cons, List.length_nil, List.length_append, List.length_take, List.length_drop]; omega))))); intro h' F' N'; (try k_sweep)))
local macro_rules | `(tactic| walk_at "pyReprObj str") => `(tactic| (refine pyReprObj_str (hx := ?hx) ?_; (case hx => (rw [PySem.sizeLine_eq]; omega))))
local macro_rules | `(tactic| walk_at "compareOp NotEq str str") => `(tactic| first | refine ne_strs_true (by assumption) ?_ | refine ne_strs_false ?_)
local macro_rules | `(tactic| walk_at "SrcLP") => `(tactic| (k_here; k_dflt (refine LCp.SrcLP.ledger (by rfl) (by k_asm) (by k_asm) (by k_mem) (by (simp only [List.size_toArray, PySem.sizeLine_eq]; omega)) ?_; intro g'; (rename Secs _ _ _ => hsec'); refine rest_snd (by rfl) (by rfl) (by decide) (.inr ⟨_, by k_mem, rfl, _, rfl⟩) _ _ 0 [] (hsec'.mono (fun p hp => (by simp only [List.mem_cons]; first | exact hp | exact .inr hp | exact .inr (.inr hp) | exact .inr (.inr (.inr hp)) | exact .inr (.inr (.inr (.inr hp))) | exact .inr (.inr (.inr (.inr (.inr hp))))))) (fun j v hj => by simpa using hj) ?_); intro D' h' tk' F' N' off'; (try simp only [LCg.Off1] at off')))
local macro_rules | `(tactic| walk_at "call builtin:len") => `(tactic| (k_here; (with_reducible show wpAny _ _ (call (Value.builtin "len") [Value.ref _]) _ _ _); k_dflt (refine' len_ba_K ?N ?m ?_; (case N => k_asm); (case m => k_mem))))
local macro_rules | `(tactic| walk_at "compareOp In int bytes") => `(tactic| (k_here; refine in_bytes_true (by decide +kernel) (by decide +kernel) (by decide +kernel) ?_))
local macro_rules | `(tactic| walk_at "truthy bytes") => `(tactic| (k_here; refine truthy_b0 ?_))
local macro_rules | `(tactic| walk_at "UnrEnd") => `(tactic| (k_here; k_dflt (refine UnrEnd.intro (by assumption) (by assumption) _ (fun p hp => hp) (my_off (by assumption)) ?_)))
local macro_rules | `(tactic| walk_at "exec While UnaryOp cons nil") => `(tactic| (k_here; k_dflt (refine whl_start 4 ?_)))
local macro_rules | `(tactic| walk_at "leaving ref") => `(tactic| (k_here; (with_reducible rename KtsDicts _ _ => kdX); (refine' leave_raiseSC ?k1 ?k0 ?k2 ?k3 ?_; (case k0 => first | assumption | exact Heap.MadeExc.of (by assumption)); (case k2 => assumption); (case k1 => assumption); (case k3 => k_asm); k_whole; intro h' t' S' R' U' C'; (try dsimp only at S' R' U' ⊢))))
local macro_rules | `(tactic| walk_at "noteFrame ref") => `(tactic| (k_here; (rename Ctx0 _ _ => ctX); k_dflt (refine' caught_SOC ?R ctX ?F ?K ?U ?XB ?TB ?D ?T0 ?ex ?q ?_; (case R => assumption); (case F => assumption); (case K => assumption); (case U => assumption); (case XB => assumption); (case TB => assumption); (case D => assumption); (case T0 => first | assumption | exact KtsTurn.refl); (case ex => k_is); (case q => kts_isx); k_whole); intro h' g' T0 oe oT ot T' F' N' exX off1 off2 off3 K' X' P' D'; (have offX := Off3.mk off1 off2 off3); (replace off1 := offN_mk off1); (replace off2 := offN_mk off2); (replace off3 := offN_mk off3); clear ctX; (try k_lift K'); (try k_sweep)))
local macro_rules | `(tactic| walk_at "pyIter ref") => `(tactic| ((with_reducible show wpAny _ _ (pyIter (Value.ref _)) (fun it s₂ => LoopAtV _ _ _ _ _ _ _ _ _ it s₂) _ _); (rename Fr _ _ _ _ => lF'); (rename News _ _ _ _ => lN'); (rename IsRange _ _ _ _ _ _ _ _ => rgX); (rename Exc0 _ _ _ _ _ _ _ _ => exX); (with_unfolding_all refine iter_rangeX (n := 1) exX (by rfl) (by k_mem) rgX (by first | decide | rfl) (by first | decide | rfl) lF' lN' ?_); clear lF' lN'; intro i' l1; (try k_lt l1)))
local macro_rules | `(tactic| walk_at "RangeRestH") => `(tactic| (with_unfolding_all first | (refine RangeRestH.succ (fun t' h' tk' F' N' => ?_)) | (refine RangeRestH.zero (fun h' tk' F' N' => ?_))))
local macro_rules | `(tactic| walk_at "UnrEnd") => `(tactic| (k_here; k_dflt (refine UnrEnd.intro (by assumption) (by assumption) _ (fun p hp => hp) (my_off (by assumption)) ⟨by k_mem, ?_⟩)))
local macro_rules | `(tactic| walk_at "exec Raise none none") => `(tactic| (k_here; (rename Exc0 _ _ _ _ _ _ _ _ => exX); (rename Off3 _ _ _ _ => ofX); k_dflt (refine' bare_raiseX ?h rfl ?F ?N exX ofX ?m ?_; (case h => exact rfl); (case F => k_asm); (case N => k_asm); (case m => exact rfl)); intro h' F' N'))
local macro_rules | `(tactic| walk_at "leaving ref") => `(tactic| (k_here; (rename Exc0 _ _ _ _ _ _ _ _ => exX); (rename Off3 _ _ _ _ => ofX); (refine' leave_heldX ?K ?TT ?F ?N exX ofX ?m ?_; (case F => k_asm); (case N => k_asm); (case K => assumption); (case TT => assumption); (case m => exact rfl); k_whole; intro h' S' R' U'; (try dsimp only at S' R' U' ⊢))))
local macro_rules | `(tactic| k_all) => `(tactic| assumption)
local macro_rules | `(tactic| k_ne) => `(tactic| (refine neN ?_; (try dsimp only); first | (refine' OffN.r ?zzh ?zzm; (case zzh => assumption); (case zzm => k_mem); done) | (refine' OffN.l ?zzh ?zzm; (case zzh => assumption); (case zzm => k_mem); done) | fail))
local macro_rules | `(tactic| k_ne) => `(tactic| (refine neN ?_; (try dsimp only); first | (refine Off.l (by assumption) ?_; k_memK; done) | (refine Off.r (by assumption) ?_; k_memK; done) | fail))
section
variable {w : World} {E : Value → Shared → Prop} {Q : Value → Shared → Prop} {s : Shared} {h₀ : Heap} {L fa : Addr} {cd : Value} {m : Str → Option Value} {nm : List (Str × NameKind)} {b1 b2 : Bool} {mr : List (Str × Const)} {cn : Str}
  {p : Program} {loose : List Str} {mean : ExcName → Option Value} {mg mb : Str → Option Value} {rest : List (Addr × Obj)} {P D CX CU RS TK FP FD BA PM : Addr} {vs cxs rs : List Value} {n n2 n3 : Nat} {d : PD} {v v2 : Value}
theorem asked3 {u1 u2 u3 ub uc : Tok} (B : Below callerA h₀ [] h₀) (F : Fr h₀ L s.heap m) (X : (K w.params).In h₀) (T : Top p loose mean mg mb h₀)
    (N : News h₀ L s.heap ((P, instObj 1367 D) :: (D, dictOf (d.es w) 13) :: (RS, listOf #[] n3) :: (TK, listOf #[] n2) :: (PM, methodObj (.ref 1186) (.ref P)) :: (BA, ({ cls := .type "bytearray", data := .bytearray #[] 0 } : Obj)) :: (FP, instObj 874 FD) :: (FD, dictOf [ent w "_BytesIO__buf" u1 (.ref BA), ent w "_BytesIO__pos" u2 (.int 0 u3)] 2) :: rest)) (hresults : d.results = .ref RS) (heof : d.eof = .bool false) (htokens : d.tokens = .ref TK) (hfp : d.fp = .ref FP) (hbuf : d.buf = .bytes #[] ub) (hcharpos : d.charpos = .int 0 uc) (hparse1 : d.parse1 = .ref PM)
    (hD : ∀ p ∈ rest, p.1 ≠ D)
    (oD : Off D [P, RS, TK, PM, BA, FP, FD]) (h : ∀ h' tk vb vf vc, Fr h₀ L h' m → News h₀ L h' ((P, instObj 1367 D) :: (D, dictOf (PD.es w { d with eof := .bool true, bufpos := vb, buf := vf, charpos := vc }) 13) :: (RS, listOf #[] n3) :: (TK, listOf #[] n2) :: (PM, methodObj (.ref 1186) (.ref P)) :: (BA, ({ cls := .type "bytearray", data := .bytearray #[] 0 } : Obj)) :: (FP, instObj 874 FD) :: (FD, dictOf [ent w "_BytesIO__buf" u1 (.ref BA), ent w "_BytesIO__pos" u2 (.int 0 u3)] 2) :: rest) → Q (.none) { s with heap := h', toks := tk }) :
    wpAny (model PySem.Challenge.rw_ae5031_04.row.prog w) (callerA.deeper (envOfC cn ⟨.function, nm, b1, b2, mr⟩ L fa cd)) (call (.ref 1656) [.ref P] []) Q E s := by
  revert X; k_fill; intro X
  obtain ⟨fp, eof, bufpos, buf, charpos, parse1, curtoken, curtokenpos, tokens, context, curtype, curstack, results, t1, t2, t3, t4, t5, t6, t7, t8, t9, t10, t11, t12, t13⟩ := d
  dsimp only at hresults heof htokens hfp hbuf hcharpos hparse1
  dsimp only [PD.es] at N
  subst hresults heof htokens hfp hbuf hcharpos hparse1
  refine wpAny_call ?_
  (refine' my_defS0 ?k1 ?k2 ?k3 ?k4 ?k5 ?kA ?hf ?hl ?c1 ?k6 ?k7 ?k8 ?k9 ?kB ?_ ?c2 ?c3 ?c4 ?c5; (case kA => exact rfl); (case hf => exact rfl); (case hl => exact rfl); (case c1 => exact rfl); (case k2 => k_asm); (case k1 => k_asm); (case k3 => k_asm); (case k4 => k_asm); (case k5 => k_asm); (case k6 => k_is); (case k7 => k_is); (case k8 => k_room); (case k9 => first | exact binds_K (by k_in) rfl (by k_is) rfl rfl rfl | exact BindsTo.of_eq rfl); (case kB => exact locs rfl); (case c2 => exact rfl); (case c3 => exact rfl); (case c4 => exact rfl); (case c5 => decide); k_whole; intro g' L' h' FG' F' N' B' X' T' D'; (try dsimp only); (try k_lift B'); (try k_fold))
  k_steps
  exact h _ _ _ _ _ (by assumption) (by assumption)
end
end Mine
end
section
theorem Mine.freshU2 : True := by
  run_tac (do PyProof.Rows.walkLines.set (0, {}); PyProof.Rows.walkHit.set {}; PyProof.Rows.walkTop.set false; PyProof.Rows.walkStart.set 0; PyProof.Rows.walkLate.set false)
  trivial
open PySem PySem.W PySem.Calls PyProof.Rows
set_option Elab.async false
set_option maxRecDepth 100000
set_option maxHeartbeats 400000
set_option linter.unusedVariables false
set_option linter.unusedSimpArgs false
namespace Mine
theorem secs_rest {h₀ h : Heap} {L : Addr} {ns news : List (Addr × Obj)} {vs ss : List Value} (N : News h₀ L h news) (hns : ∀ p ∈ ns, p ∈ news) (hn : ∀ q ∈ ns, ∀ a x k, q.2 ≠ ({ cls := .type "tuple", data := .seq #[a, x] k } : Obj)) (h : Secs news vs ss) : Secs (restOf ns news) vs ss := by
  induction h with
  | nil => exact .nil
  | cons hm _ ih =>
    rcases List.mem_append.mp (cover N hns hm) with e | e
    · exact absurd rfl (hn _ e _ _ _)
    · exact .cons e ih
theorem off1_of {D : Addr} : ∀ {l : List (Addr × Obj)}, LCg.Off1 D l → ∀ p ∈ l, @Ne Nat p.1 D
  | [], _ => fun _ hp => nomatch hp
  | _ :: _, h => fun p hp => by
    rcases List.mem_cons.mp hp with rfl | hp
    · exact h.1
    · exact off1_of h.2 p hp
section
variable {w : World} {E : Value → Shared → Prop} {Q : Value → Shared → Prop} {s : Shared} {h₀ : Heap} {L fa : Addr} {cd : Value} {m : Str → Option Value} {nm : List (Str × NameKind)} {b1 b2 : Bool} {mr : List (Str × Const)} {cn : Str}
  {p : Program} {loose : List Str} {mean : ExcName → Option Value} {mg mb : Str → Option Value} {news : List (Addr × Obj)} {g : Obj → List (Addr × Obj)} {g2 : Obj → Obj → List (Addr × Obj)} {P D CX CU RS TK FP FD BA PM : Addr} {vs cxs rs : List Value} {n n2 n3 : Nat} {d : PD} {v v2 : Value}
theorem push1U (B : Below callerA h₀ [] h₀) (F : Fr h₀ L s.heap m) (X : (K w.params).In h₀) (T : Top p loose mean mg mb h₀)
    (N : News h₀ L s.heap news) (mP : (P, instObj 1367 D) ∈ news) (mD : (D, dictOf (d.es w) 13) ∈ news)
    (UCU : UpdF CU (listOf vs.toArray n) news g) (hcurstack : d.curstack = .ref CU)  (hvs : vs.length ≤ 900)
    (h : ∀ h' tk , Fr h₀ L h' m → News h₀ L h' (g (listOf (vs ++ [v]).toArray (n + 1))) → Q (.none) { s with heap := h', toks := tk }) :
    wpAny (model PySem.Challenge.rw_ae5031_04.row.prog w) (callerA.deeper (envOfC cn ⟨.function, nm, b1, b2, mr⟩ L fa cd)) (call (.ref 1319) [.ref P, v] []) Q E s := by
  have mCU := updF_mem UCU
  have hns : ∀ p ∈ ([(P, instObj 1367 D), (D, dictOf (d.es w) 13), (CU, listOf vs.toArray n)] : List (Addr × Obj)), p ∈ news := by
    intro p hp
    simp only [List.mem_cons, List.not_mem_nil, or_false] at hp
    rcases hp with rfl | rfl | rfl <;> assumption
  have hPD : @Ne Nat P D := ne_obj N mP mD (ne_cls (by simp))
  have hPCU : @Ne Nat P CU := ne_obj N mP mCU (ne_cls (by simp))
  have hDCU : @Ne Nat D CU := ne_obj N mD mCU (ne_cls (by simp))
  have N0 := parts N hns
  have C0 := fun (p : Addr × Obj) (hp : p ∈ news) => cover N hns hp
  refine push1 B F X T N0 hcurstack (restOf_off (by simp)) (restOf_off (by simp)) (restOf_off (by simp)) hvs (by assumption) (by assumption) (by assumption) ?_
  intro h' tk  F' N' 
  refine h h' tk  F' ?_ 
  intro p hp
  have key : p = (CU, listOf (vs ++ [v]).toArray (n + 1)) ∨ (p ∈ news ∧ p.1 ≠ CU) := by
    exact updF_cover UCU hp
  rcases key with rfl | ⟨hp, e0⟩
  · exact N' _ (by simp)
  · have c := C0 p hp
    simp only [List.cons_append, List.nil_append, List.mem_cons] at c
    rcases c with rfl | rfl | rfl | c
    · exact N' _ (by simp)
    · exact N' _ (by simp)
    · exact absurd rfl (by assumption)
    · exact N' _ (by simp [c])
theorem push2U (B : Below callerA h₀ [] h₀) (F : Fr h₀ L s.heap m) (X : (K w.params).In h₀) (T : Top p loose mean mg mb h₀)
    (N : News h₀ L s.heap news) (mP : (P, instObj 1367 D) ∈ news) (mD : (D, dictOf (d.es w) 13) ∈ news)
    (UCU : UpdF CU (listOf vs.toArray n) news g) (hcurstack : d.curstack = .ref CU)  (hvs : vs.length ≤ 900)
    (h : ∀ h' tk , Fr h₀ L h' m → News h₀ L h' (g (listOf (vs ++ [v, v2]).toArray (n + 1))) → Q (.none) { s with heap := h', toks := tk }) :
    wpAny (model PySem.Challenge.rw_ae5031_04.row.prog w) (callerA.deeper (envOfC cn ⟨.function, nm, b1, b2, mr⟩ L fa cd)) (call (.ref 1319) [.ref P, v, v2] []) Q E s := by
  have mCU := updF_mem UCU
  have hns : ∀ p ∈ ([(P, instObj 1367 D), (D, dictOf (d.es w) 13), (CU, listOf vs.toArray n)] : List (Addr × Obj)), p ∈ news := by
    intro p hp
    simp only [List.mem_cons, List.not_mem_nil, or_false] at hp
    rcases hp with rfl | rfl | rfl <;> assumption
  have hPD : @Ne Nat P D := ne_obj N mP mD (ne_cls (by simp))
  have hPCU : @Ne Nat P CU := ne_obj N mP mCU (ne_cls (by simp))
  have hDCU : @Ne Nat D CU := ne_obj N mD mCU (ne_cls (by simp))
  have N0 := parts N hns
  have C0 := fun (p : Addr × Obj) (hp : p ∈ news) => cover N hns hp
  refine push2 B F X T N0 hcurstack (restOf_off (by simp)) (restOf_off (by simp)) (restOf_off (by simp)) hvs (by assumption) (by assumption) (by assumption) ?_
  intro h' tk  F' N' 
  refine h h' tk  F' ?_ 
  intro p hp
  have key : p = (CU, listOf (vs ++ [v, v2]).toArray (n + 1)) ∨ (p ∈ news ∧ p.1 ≠ CU) := by
    exact updF_cover UCU hp
  rcases key with rfl | ⟨hp, e0⟩
  · exact N' _ (by simp)
  · have c := C0 p hp
    simp only [List.cons_append, List.nil_append, List.mem_cons] at c
    rcases c with rfl | rfl | rfl | c
    · exact N' _ (by simp)
    · exact N' _ (by simp)
    · exact absurd rfl (by assumption)
    · exact N' _ (by simp [c])
theorem results2U (B : Below callerA h₀ [] h₀) (F : Fr h₀ L s.heap m) (X : (K w.params).In h₀) (T : Top p loose mean mg mb h₀)
    (N : News h₀ L s.heap news) (mP : (P, instObj 1367 D) ∈ news) (mD : (D, dictOf (d.es w) 13) ∈ news)
    (UCU : UpdF CU (listOf vs.toArray n) news g) (hresults : d.results = .ref CU)  (hvs : vs.length ≤ 900)
    (h : ∀ h' tk , Fr h₀ L h' m → News h₀ L h' (g (listOf (vs ++ [v, v2]).toArray (n + 1))) → Q (.none) { s with heap := h', toks := tk }) :
    wpAny (model PySem.Challenge.rw_ae5031_04.row.prog w) (callerA.deeper (envOfC cn ⟨.function, nm, b1, b2, mr⟩ L fa cd)) (call (.ref 1340) [.ref P, v, v2] []) Q E s := by
  have mCU := updF_mem UCU
  have hns : ∀ p ∈ ([(P, instObj 1367 D), (D, dictOf (d.es w) 13), (CU, listOf vs.toArray n)] : List (Addr × Obj)), p ∈ news := by
    intro p hp
    simp only [List.mem_cons, List.not_mem_nil, or_false] at hp
    rcases hp with rfl | rfl | rfl <;> assumption
  have hPD : @Ne Nat P D := ne_obj N mP mD (ne_cls (by simp))
  have hPCU : @Ne Nat P CU := ne_obj N mP mCU (ne_cls (by simp))
  have hDCU : @Ne Nat D CU := ne_obj N mD mCU (ne_cls (by simp))
  have N0 := parts N hns
  have C0 := fun (p : Addr × Obj) (hp : p ∈ news) => cover N hns hp
  refine results2 B F X T N0 hresults (restOf_off (by simp)) (restOf_off (by simp)) (restOf_off (by simp)) hvs (by assumption) (by assumption) (by assumption) ?_
  intro h' tk  F' N' 
  refine h h' tk  F' ?_ 
  intro p hp
  have key : p = (CU, listOf (vs ++ [v, v2]).toArray (n + 1)) ∨ (p ∈ news ∧ p.1 ≠ CU) := by
    exact updF_cover UCU hp
  rcases key with rfl | ⟨hp, e0⟩
  · exact N' _ (by simp)
  · have c := C0 p hp
    simp only [List.cons_append, List.nil_append, List.mem_cons] at c
    rcases c with rfl | rfl | rfl | c
    · exact N' _ (by simp)
    · exact N' _ (by simp)
    · exact absurd rfl (by assumption)
    · exact N' _ (by simp [c])
theorem popallU (B : Below callerA h₀ [] h₀) (F : Fr h₀ L s.heap m) (X : (K w.params).In h₀) (T : Top p loose mean mg mb h₀)
    (N : News h₀ L s.heap news) (mP : (P, instObj 1367 D) ∈ news)
    (UD : UpdF D (dictOf (d.es w) 13) news g) (hcurstack : d.curstack = .ref CU)  
    (h : ∀ h' tk CN, Fr h₀ L h' m → News h₀ L h' ((CN, listOf #[] 0) :: g (dictOf (PD.es w { d with curstack := .ref CN }) 13)) → (∀ p ∈ news, @LT.lt Nat _ p.1 CN) → Q (.ref CU) { s with heap := h', toks := tk }) :
    wpAny (model PySem.Challenge.rw_ae5031_04.row.prog w) (callerA.deeper (envOfC cn ⟨.function, nm, b1, b2, mr⟩ L fa cd)) (call (.ref 1333) [.ref P] []) Q E s := by
  have mD := updF_mem UD
  have hns : ∀ p ∈ ([(P, instObj 1367 D), (D, dictOf (d.es w) 13)] : List (Addr × Obj)), p ∈ news := by
    intro p hp
    simp only [List.mem_cons, List.not_mem_nil, or_false] at hp
    rcases hp with rfl | rfl <;> assumption
  have hPD : @Ne Nat P D := ne_obj N mP mD (ne_cls (by simp))
  have N0 := parts N hns
  have C0 := fun (p : Addr × Obj) (hp : p ∈ news) => cover N hns hp
  refine popall0 B F X T N0 hcurstack (restOf_off (by simp)) (restOf_off (by simp)) (by assumption) ?_
  intro h' tk CN F' N' l1
  refine h h' tk CN F' ?_ (fun p hp => by obtain ⟨x0, x1, x2⟩ := l1; have c := C0 p hp; simp only [List.cons_append, List.nil_append, List.mem_cons] at c; rcases c with rfl | rfl | c <;> first | assumption | exact allNew_of (by assumption) _ c)
  intro p hp
  have key : p = (CN, listOf #[] 0) ∨ p = (D, dictOf (PD.es w { d with curstack := .ref CN }) 13) ∨ (p ∈ news ∧ p.1 ≠ D) := by
    simp only [List.mem_cons] at hp
    rcases hp with e | hp
    · simp [e]
    · exact .inr (updF_cover UD hp)
  rcases key with rfl | rfl | ⟨hp, e0⟩
  · exact N' _ (by simp)
  · exact N' _ (by simp)
  · have c := C0 p hp
    simp only [List.cons_append, List.nil_append, List.mem_cons] at c
    rcases c with rfl | rfl | c
    · exact N' _ (by simp)
    · exact absurd rfl (by assumption)
    · exact N' _ (by simp [c])
theorem resetU (B : Below callerA h₀ [] h₀) (F : Fr h₀ L s.heap m) (X : (K w.params).In h₀) (T : Top p loose mean mg mb h₀)
    (N : News h₀ L s.heap news) (mP : (P, instObj 1367 D) ∈ news)
    (UD : UpdF D (dictOf (d.es w) 13) news g)  
    (h : ∀ h' tk A3 A2 A1, Fr h₀ L h' m → News h₀ L h' ((A3, listOf #[] 0) :: (A2, listOf #[] 0) :: (A1, listOf #[] 0) :: g (dictOf (PD.es w { d with context := .ref A1, curtype := .none, curstack := .ref A2, results := .ref A3 }) 13)) → (∀ p ∈ news, @LT.lt Nat _ p.1 A1) → (∀ p ∈ news, @LT.lt Nat _ p.1 A2) → (∀ p ∈ news, @LT.lt Nat _ p.1 A3) → A1 < A2 → A2 < A3 → Q (.none) { s with heap := h', toks := tk }) :
    wpAny (model PySem.Challenge.rw_ae5031_04.row.prog w) (callerA.deeper (envOfC cn ⟨.function, nm, b1, b2, mr⟩ L fa cd)) (call (.ref 1305) [.ref P] []) Q E s := by
  have mD := updF_mem UD
  have hns : ∀ p ∈ ([(P, instObj 1367 D), (D, dictOf (d.es w) 13)] : List (Addr × Obj)), p ∈ news := by
    intro p hp
    simp only [List.mem_cons, List.not_mem_nil, or_false] at hp
    rcases hp with rfl | rfl <;> assumption
  have hPD : @Ne Nat P D := ne_obj N mP mD (ne_cls (by simp))
  have N0 := parts N hns
  have C0 := fun (p : Addr × Obj) (hp : p ∈ news) => cover N hns hp
  refine reset0 B F X T N0  (restOf_off (by simp)) (restOf_off (by simp)) (by assumption) ?_
  intro h' tk A1 A2 A3 F' N' l1 l2 l3
  have ab : ∀ p ∈ news, @LT.lt Nat _ p.1 A1 := (fun p hp => by obtain ⟨x0, x1, x2⟩ := l1; have c := C0 p hp; simp only [List.cons_append, List.nil_append, List.mem_cons] at c; rcases c with rfl | rfl | c <;> first | assumption | exact allNew_of (by assumption) _ c)
  refine h h' tk A3 A2 A1 F' ?_ ab (fun p hp => Nat.lt_trans (ab p hp) l2) (fun p hp => Nat.lt_trans (Nat.lt_trans (ab p hp) l2) l3) l2 l3
  intro p hp
  have key : p = (A3, listOf #[] 0) ∨ p = (A2, listOf #[] 0) ∨ p = (A1, listOf #[] 0) ∨ p = (D, dictOf (PD.es w { d with context := .ref A1, curtype := .none, curstack := .ref A2, results := .ref A3 }) 13) ∨ (p ∈ news ∧ p.1 ≠ D) := by
    simp only [List.mem_cons] at hp
    rcases hp with e | e | e | hp
    · simp [e]
    · simp [e]
    · simp [e]
    · exact .inr (.inr (.inr (updF_cover UD hp)))
  rcases key with rfl | rfl | rfl | rfl | ⟨hp, e0⟩
  · exact N' _ (by simp)
  · exact N' _ (by simp)
  · exact N' _ (by simp)
  · exact N' _ (by simp)
  · have c := C0 p hp
    simp only [List.cons_append, List.nil_append, List.mem_cons] at c
    rcases c with rfl | rfl | c
    · exact N' _ (by simp)
    · exact absurd rfl (by assumption)
    · exact N' _ (by simp [c])
theorem startU {kd : Str} {tkd : Tok} {pos : Int} {tp : Tok} (B : Below callerA h₀ [] h₀) (F : Fr h₀ L s.heap m) (X : (K w.params).In h₀) (T : Top p loose mean mg mb h₀)
    (N : News h₀ L s.heap news) (mP : (P, instObj 1367 D) ∈ news)
    (UD : UpdF D (dictOf (d.es w) 13) news g)
    (UCX : ∀ o', UpdF CX (listOf cxs.toArray n2) (g o') (g2 o')) (hcontext : d.context = .ref CX)  (hct : d.curtype = .none ∨ ∃ k t, d.curtype = .str k t) (hcu : d.curstack = .ref CU) (hvs : cxs.length ≤ 900)
    (h : ∀ h' tk A2 A1, Fr h₀ L h' m → News h₀ L h' ((A2, listOf #[] 0) :: (A1, ({ cls := .type "tuple", data := .seq #[Value.int pos tp, d.curtype, Value.ref CU] 0 } : Obj)) :: g2 (dictOf (PD.es w { d with curtype := Value.str kd tkd, curstack := .ref A2 }) 13) (listOf (cxs.toArray.push (Value.ref A1)) (n2 + 1))) → (∀ p ∈ news, @LT.lt Nat _ p.1 A1) → (∀ p ∈ news, @LT.lt Nat _ p.1 A2) → A1 < A2 → Q (.none) { s with heap := h', toks := tk }) :
    wpAny (model PySem.Challenge.rw_ae5031_04.row.prog w) (callerA.deeper (envOfC cn ⟨.function, nm, b1, b2, mr⟩ L fa cd)) (call (.ref 1347) [.ref P, Value.int pos tp, Value.str kd tkd] []) Q E s := by
  have mD := updF_mem UD
  have mCX : (CX, listOf cxs.toArray n2) ∈ news := by
    rcases updF_cover UD (updF_mem (UCX emptyDict)) with e | e
    · exact absurd (congrArg Prod.snd e) (ne_cls (by simp))
    · exact e.1
  have hns : ∀ p ∈ ([(P, instObj 1367 D), (D, dictOf (d.es w) 13), (CX, listOf cxs.toArray n2)] : List (Addr × Obj)), p ∈ news := by
    intro p hp
    simp only [List.mem_cons, List.not_mem_nil, or_false] at hp
    rcases hp with rfl | rfl | rfl <;> assumption
  have hPD : @Ne Nat P D := ne_obj N mP mD (ne_cls (by simp))
  have hPCX : @Ne Nat P CX := ne_obj N mP mCX (ne_cls (by simp))
  have hDCX : @Ne Nat D CX := ne_obj N mD mCX (ne_cls (by simp))
  have N0 := parts N hns
  have C0 := fun (p : Addr × Obj) (hp : p ∈ news) => cover N hns hp
  refine start0 B F X T N0 hcontext hct hcu (restOf_off (by simp)) (restOf_off (by simp)) (restOf_off (by simp)) (by assumption) (by assumption) (by assumption) hvs ?_
  intro h' tk A1 A2 F' N' l1 l2
  have ab : ∀ p ∈ news, @LT.lt Nat _ p.1 A1 := (fun p hp => by obtain ⟨x0, x1, x2, x3⟩ := l1; have c := C0 p hp; simp only [List.cons_append, List.nil_append, List.mem_cons] at c; rcases c with rfl | rfl | rfl | c <;> first | assumption | exact allNew_of (by assumption) _ c)
  refine h h' tk A2 A1 F' ?_ ab (fun p hp => Nat.lt_trans (ab p hp) l2) l2
  intro p hp
  have key : p = (A2, listOf #[] 0) ∨ p = (A1, ({ cls := .type "tuple", data := .seq #[Value.int pos tp, d.curtype, Value.ref CU] 0 } : Obj)) ∨ p = (CX, listOf (cxs.toArray.push (Value.ref A1)) (n2 + 1)) ∨ p = (D, dictOf (PD.es w { d with curtype := Value.str kd tkd, curstack := .ref A2 }) 13) ∨ (p ∈ news ∧ p.1 ≠ CX ∧ p.1 ≠ D) := by
    simp only [List.mem_cons] at hp
    rcases hp with e | e | hp
    · simp [e]
    · simp [e]
    · rcases updF_cover (UCX _) hp with e | ⟨hp, e1⟩
      · exact .inr (.inr (.inl e))
      · rcases updF_cover UD hp with e | ⟨hp, e0⟩
        · exact .inr (.inr (.inr (.inl e)))
        · exact .inr (.inr (.inr (.inr ⟨hp, e1, e0⟩)))
  rcases key with rfl | rfl | rfl | rfl | ⟨hp, e0, e1⟩
  · exact N' _ (by simp)
  · exact N' _ (by simp)
  · exact N' _ (by simp)
  · exact N' _ (by simp)
  · have c := C0 p hp
    simp only [List.cons_append, List.nil_append, List.mem_cons] at c
    rcases c with rfl | rfl | rfl | c
    · exact N' _ (by simp)
    · exact absurd rfl (by assumption)
    · exact absurd rfl (by assumption)
    · exact N' _ (by simp [c])
theorem popU {k j : Nat} {tk0 : Tok} (B : Below callerA h₀ [] h₀) (F : Fr h₀ L s.heap m) (X : (K w.params).In h₀) (T : Top p loose mean mg mb h₀)
    (N : News h₀ L s.heap news) (mP : (P, instObj 1367 D) ∈ news) (mD : (D, dictOf (d.es w) 13) ∈ news)
    (UCU : UpdF CU (listOf vs.toArray n) news g) (hcurstack : d.curstack = .ref CU)  (hk : 1 ≤ k) (hvs : vs.length ≤ 900) (hj : (-(-(k : Int))).toNat = j)
    (h : ∀ h' tk R n', Fr h₀ L h' m → News h₀ L h' ((R, listOf (vs.drop (vs.length - j)).toArray 0) :: g (listOf (vs.take (vs.length - j)).toArray n')) → (∀ p ∈ news, @LT.lt Nat _ p.1 R) → Q (.ref R) { s with heap := h', toks := tk }) :
    wpAny (model PySem.Challenge.rw_ae5031_04.row.prog w) (callerA.deeper (envOfC cn ⟨.function, nm, b1, b2, mr⟩ L fa cd)) (call (.ref 1326) [.ref P, .int (k : Int) tk0] []) Q E s := by
  have mCU := updF_mem UCU
  have hns : ∀ p ∈ ([(P, instObj 1367 D), (D, dictOf (d.es w) 13), (CU, listOf vs.toArray n)] : List (Addr × Obj)), p ∈ news := by
    intro p hp
    simp only [List.mem_cons, List.not_mem_nil, or_false] at hp
    rcases hp with rfl | rfl | rfl <;> assumption
  have hPD : @Ne Nat P D := ne_obj N mP mD (ne_cls (by simp))
  have hPCU : @Ne Nat P CU := ne_obj N mP mCU (ne_cls (by simp))
  have hDCU : @Ne Nat D CU := ne_obj N mD mCU (ne_cls (by simp))
  have N0 := parts N hns
  have C0 := fun (p : Addr × Obj) (hp : p ∈ news) => cover N hns hp
  refine pop0 B F X T N0 hcurstack (restOf_off (by simp)) (restOf_off (by simp)) (restOf_off (by simp)) (by assumption) (by assumption) (by assumption) hk hvs hj ?_
  intro h' tk R n' F' N' l1
  refine h h' tk R n' F' ?_ (fun p hp => by obtain ⟨x0, x1, x2, x3⟩ := l1; have c := C0 p hp; simp only [List.cons_append, List.nil_append, List.mem_cons] at c; rcases c with rfl | rfl | rfl | c <;> first | assumption | exact allNew_of (by assumption) _ c)
  intro p hp
  have key : p = (R, listOf (vs.drop (vs.length - j)).toArray 0) ∨ p = (CU, listOf (vs.take (vs.length - j)).toArray n') ∨ (p ∈ news ∧ p.1 ≠ CU) := by
    simp only [List.mem_cons] at hp
    rcases hp with e | hp
    · simp [e]
    · exact .inr (updF_cover UCU hp)
  rcases key with rfl | rfl | ⟨hp, e0⟩
  · exact N' _ (by simp)
  · exact N' _ (by simp)
  · have c := C0 p hp
    simp only [List.cons_append, List.nil_append, List.mem_cons] at c
    rcases c with rfl | rfl | rfl | c
    · exact N' _ (by simp)
    · exact N' _ (by simp)
    · exact absurd rfl (by assumption)
    · exact N' _ (by simp [c])
theorem asked1U {r : Value} (B : Below callerA h₀ [] h₀) (F : Fr h₀ L s.heap m) (X : (K w.params).In h₀) (T : Top p loose mean mg mb h₀)
    (N : News h₀ L s.heap news) (mP : (P, instObj 1367 D) ∈ news) (mD : (D, dictOf (d.es w) 13) ∈ news)
    (URS : UpdF RS (listOf (r :: vs).toArray n3) news g) (hresults : d.results = .ref RS)  (hvs : vs.length ≤ 900)
    (h : ∀ h' tk , Fr h₀ L h' m → News h₀ L h' (g (listOf vs.toArray (n3 + 1))) → Q (r) { s with heap := h', toks := tk }) :
    wpAny (model PySem.Challenge.rw_ae5031_04.row.prog w) (callerA.deeper (envOfC cn ⟨.function, nm, b1, b2, mr⟩ L fa cd)) (call (.ref 1656) [.ref P] []) Q E s := by
  have mRS := updF_mem URS
  have hns : ∀ p ∈ ([(P, instObj 1367 D), (D, dictOf (d.es w) 13), (RS, listOf (r :: vs).toArray n3)] : List (Addr × Obj)), p ∈ news := by
    intro p hp
    simp only [List.mem_cons, List.not_mem_nil, or_false] at hp
    rcases hp with rfl | rfl | rfl <;> assumption
  have hPD : @Ne Nat P D := ne_obj N mP mD (ne_cls (by simp))
  have hPRS : @Ne Nat P RS := ne_obj N mP mRS (ne_cls (by simp))
  have hDRS : @Ne Nat D RS := ne_obj N mD mRS (ne_cls (by simp))
  have N0 := parts N hns
  have C0 := fun (p : Addr × Obj) (hp : p ∈ news) => cover N hns hp
  refine asked1 B F X T N0 hresults (restOf_off (by simp)) (restOf_off (by simp)) (restOf_off (by simp)) (by assumption) (by assumption) (by assumption) hvs ?_
  intro h' tk  F' N' 
  refine h h' tk  F' ?_ 
  intro p hp
  have key : p = (RS, listOf vs.toArray (n3 + 1)) ∨ (p ∈ news ∧ p.1 ≠ RS) := by
    exact updF_cover URS hp
  rcases key with rfl | ⟨hp, e0⟩
  · exact N' _ (by simp)
  · have c := C0 p hp
    simp only [List.cons_append, List.nil_append, List.mem_cons] at c
    rcases c with rfl | rfl | rfl | c
    · exact N' _ (by simp)
    · exact N' _ (by simp)
    · exact absurd rfl (by assumption)
    · exact N' _ (by simp [c])
theorem asked2U (B : Below callerA h₀ [] h₀) (F : Fr h₀ L s.heap m) (X : (K w.params).In h₀) (T : Top p loose mean mg mb h₀)
    (N : News h₀ L s.heap news) (mP : (P, instObj 1367 D) ∈ news) (mD : (D, dictOf (d.es w) 13) ∈ news) (mRS : (RS, listOf #[] n3) ∈ news) (hresults : d.results = .ref RS) (heof : d.eof = .bool true)  
    (h : ∀ h' tk , Fr h₀ L h' m → News h₀ L h' (news) → Q (.none) { s with heap := h', toks := tk }) :
    wpAny (model PySem.Challenge.rw_ae5031_04.row.prog w) (callerA.deeper (envOfC cn ⟨.function, nm, b1, b2, mr⟩ L fa cd)) (call (.ref 1656) [.ref P] []) Q E s := by
  have hns : ∀ p ∈ ([(P, instObj 1367 D), (D, dictOf (d.es w) 13), (RS, listOf #[] n3)] : List (Addr × Obj)), p ∈ news := by
    intro p hp
    simp only [List.mem_cons, List.not_mem_nil, or_false] at hp
    rcases hp with rfl | rfl | rfl <;> assumption
  have hPD : @Ne Nat P D := ne_obj N mP mD (ne_cls (by simp))
  have hPRS : @Ne Nat P RS := ne_obj N mP mRS (ne_cls (by simp))
  have hDRS : @Ne Nat D RS := ne_obj N mD mRS (ne_cls (by simp))
  have N0 := parts N hns
  have C0 := fun (p : Addr × Obj) (hp : p ∈ news) => cover N hns hp
  refine asked2 B F X T N0 hresults heof (restOf_off (by simp)) (restOf_off (by simp)) (restOf_off (by simp)) (by assumption) (by assumption) (by assumption) ?_
  intro h' tk  F' N' 
  refine h h' tk  F' ?_ 
  intro p hp
  have key : (p ∈ news) := by
    exact hp
  rcases key with hp
  have c := C0 p hp
  simp only [List.cons_append, List.nil_append, List.mem_cons] at c
  rcases c with rfl | rfl | rfl | c
  · exact N' _ (by simp)
  · exact N' _ (by simp)
  · exact N' _ (by simp)
  · exact N' _ (by simp [c])
theorem endedNoU {kd k2 : Str} {tkd tk2 : Tok} (B : Below callerA h₀ [] h₀) (F : Fr h₀ L s.heap m) (X : (K w.params).In h₀) (T : Top p loose mean mg mb h₀)
    (N : News h₀ L s.heap news) (mP : (P, instObj 1367 D) ∈ news) (mD : (D, dictOf (d.es w) 13) ∈ news) (hcurtype : d.curtype = .str k2 tk2)  (hk : k2 ≠ kd) (hkd : (reprText kd).length ≤ 100) (hk2 : (reprText k2).length ≤ 100)
    (h : ∀ h' tk , Fr h₀ L h' m → News h₀ L h' (news) → Q (.none) { s with heap := h', toks := tk }) :
    wpAny (model PySem.Challenge.rw_ae5031_04.row.prog w) (callerA.deeper (envOfC cn ⟨.function, nm, b1, b2, mr⟩ L fa cd)) (call (.ref 1649) [.ref P, .str kd tkd] []) Q E s := by
  have hns : ∀ p ∈ ([(P, instObj 1367 D), (D, dictOf (d.es w) 13)] : List (Addr × Obj)), p ∈ news := by
    intro p hp
    simp only [List.mem_cons, List.not_mem_nil, or_false] at hp
    rcases hp with rfl | rfl <;> assumption
  have hPD : @Ne Nat P D := ne_obj N mP mD (ne_cls (by simp))
  have N0 := parts N hns
  have C0 := fun (p : Addr × Obj) (hp : p ∈ news) => cover N hns hp
  refine ended_no B F X T N0 hcurtype (restOf_off (by simp)) (restOf_off (by simp)) (by assumption) hk hkd hk2 ?_
  intro h' tk  F' N' 
  refine h h' tk  F' ?_ 
  intro p hp
  have key : (p ∈ news) := by
    exact hp
  rcases key with hp
  have c := C0 p hp
  simp only [List.cons_append, List.nil_append, List.mem_cons] at c
  rcases c with rfl | rfl | c
  · exact N' _ (by simp)
  · exact N' _ (by simp)
  · exact N' _ (by simp [c])
theorem endedNoneU {kd : Str} {tkd : Tok} (B : Below callerA h₀ [] h₀) (F : Fr h₀ L s.heap m) (X : (K w.params).In h₀) (T : Top p loose mean mg mb h₀)
    (N : News h₀ L s.heap news) (mP : (P, instObj 1367 D) ∈ news) (mD : (D, dictOf (d.es w) 13) ∈ news) (hcurtype : d.curtype = .none)  (hkd : (reprText kd).length ≤ 100)
    (h : ∀ h' tk , Fr h₀ L h' m → News h₀ L h' (news) → Q (.none) { s with heap := h', toks := tk }) :
    wpAny (model PySem.Challenge.rw_ae5031_04.row.prog w) (callerA.deeper (envOfC cn ⟨.function, nm, b1, b2, mr⟩ L fa cd)) (call (.ref 1649) [.ref P, .str kd tkd] []) Q E s := by
  have hns : ∀ p ∈ ([(P, instObj 1367 D), (D, dictOf (d.es w) 13)] : List (Addr × Obj)), p ∈ news := by
    intro p hp
    simp only [List.mem_cons, List.not_mem_nil, or_false] at hp
    rcases hp with rfl | rfl <;> assumption
  have hPD : @Ne Nat P D := ne_obj N mP mD (ne_cls (by simp))
  have N0 := parts N hns
  have C0 := fun (p : Addr × Obj) (hp : p ∈ news) => cover N hns hp
  refine ended_none B F X T N0 hcurtype (restOf_off (by simp)) (restOf_off (by simp)) (by assumption) hkd ?_
  intro h' tk  F' N' 
  refine h h' tk  F' ?_ 
  intro p hp
  have key : (p ∈ news) := by
    exact hp
  rcases key with hp
  have c := C0 p hp
  simp only [List.cons_append, List.nil_append, List.mem_cons] at c
  rcases c with rfl | rfl | c
  · exact N' _ (by simp)
  · exact N' _ (by simp)
  · exact N' _ (by simp [c])
theorem endedOkU {kd : Str} {tkd tk2 tp : Tok} {pos : Int} {ct : Value} {C CB : Addr} {ss cs : List Value} (B : Below callerA h₀ [] h₀) (F : Fr h₀ L s.heap m) (X : (K w.params).In h₀) (T : Top p loose mean mg mb h₀)
    (N : News h₀ L s.heap news) (mP : (P, instObj 1367 D) ∈ news) (mCU : (CU, listOf vs.toArray n) ∈ news) (mC : (C, ({ cls := .type "tuple", data := .seq #[Value.int pos tp, ct, Value.ref CB] 0 } : Obj)) ∈ news)
    (UD : UpdF D (dictOf (d.es w) 13) news g)
    (UCX : ∀ o', UpdF CX (listOf (cs ++ [Value.ref C]).toArray n2) (g o') (g2 o')) (hcurstack : d.curstack = .ref CU) (hcontext : d.context = .ref CX) (hcurtype : d.curtype = .str kd tk2) (hCXCU : @Ne Nat CX CU) (hct : ct = .none ∨ ∃ k t, ct = .str k t) (hsec : Secs news vs ss) (hvs : vs.length ≤ 900) (hcs : cs.length ≤ 900)
    (h : ∀ h' tk T1 O, Fr h₀ L h' m → News h₀ L h' ((T1, ({ cls := .type "tuple", data := .seq #[Value.int pos tp, Value.ref O] 0 } : Obj)) :: (O, LCg.lst ss) :: g2 (dictOf (PD.es w { d with curtype := ct, curstack := .ref CB }) 13) (listOf cs.toArray (n2 + 1))) → OffN O news → O < T1 → (∀ p ∈ news, @LT.lt Nat _ p.1 T1) → Q (.ref T1) { s with heap := h', toks := tk }) :
    wpAny (model PySem.Challenge.rw_ae5031_04.row.prog w) (callerA.deeper (envOfC cn ⟨.function, nm, b1, b2, mr⟩ L fa cd)) (call (.ref 1649) [.ref P, .str kd tkd] []) Q E s := by
  have mD := updF_mem UD
  have mCX : (CX, listOf (cs ++ [Value.ref C]).toArray n2) ∈ news := by
    rcases updF_cover UD (updF_mem (UCX emptyDict)) with e | e
    · exact absurd (congrArg Prod.snd e) (ne_cls (by simp))
    · exact e.1
  have hns : ∀ p ∈ ([(P, instObj 1367 D), (D, dictOf (d.es w) 13), (CX, listOf (cs ++ [Value.ref C]).toArray n2), (CU, listOf vs.toArray n), (C, ({ cls := .type "tuple", data := .seq #[Value.int pos tp, ct, Value.ref CB] 0 } : Obj))] : List (Addr × Obj)), p ∈ news := by
    intro p hp
    simp only [List.mem_cons, List.not_mem_nil, or_false] at hp
    rcases hp with rfl | rfl | rfl | rfl | rfl <;> assumption
  have hPD : @Ne Nat P D := ne_obj N mP mD (ne_cls (by simp))
  have hPCX : @Ne Nat P CX := ne_obj N mP mCX (ne_cls (by simp))
  have hPCU : @Ne Nat P CU := ne_obj N mP mCU (ne_cls (by simp))
  have hPC : @Ne Nat P C := ne_obj N mP mC (ne_cls (by simp))
  have hDCX : @Ne Nat D CX := ne_obj N mD mCX (ne_cls (by simp))
  have hDCU : @Ne Nat D CU := ne_obj N mD mCU (ne_cls (by simp))
  have hDC : @Ne Nat D C := ne_obj N mD mC (ne_cls (by simp))
  have hCXC : @Ne Nat CX C := ne_obj N mCX mC (ne_cls (by simp))
  have hCUC : @Ne Nat CU C := ne_obj N mCU mC (ne_cls (by simp))
  have hsr := secs_rest N hns (by
    intro q hq a x k
    simp only [List.mem_cons, List.not_mem_nil, or_false] at hq
    rcases hq with rfl | rfl | rfl | rfl | rfl
    · exact ne_cls (by simp)
    · exact ne_cls (by simp)
    · exact ne_cls (by simp)
    · exact ne_cls (by simp)
    · intro e
      have := congrArg Obj.data e
      simp at this) hsec
  have N0 := parts N hns
  have C0 := fun (p : Addr × Obj) (hp : p ∈ news) => cover N hns hp
  refine ended_ok B F X T N0 hcurstack hcontext hcurtype (restOf_off (by simp)) (restOf_off (by simp)) (restOf_off (by simp)) (restOf_off (by simp)) (restOf_off (by simp)) (by assumption) (by assumption) (by assumption) (by assumption) (by assumption) (by assumption) (by assumption) (by assumption) (by assumption) (by assumption) hct hsr hvs hcs ?_
  intro h' tk T1 O F' N' o1 l1
  refine h h' tk T1 O F' ?_ (fun p hp => by obtain ⟨x0, x1, x2, x3, x4, x5⟩ := o1; have c := C0 p hp; simp only [List.cons_append, List.nil_append, List.mem_cons] at c; rcases c with rfl | rfl | rfl | rfl | rfl | c <;> first | assumption | exact off1_of (by assumption) _ c) l1.1 (fun p hp => by obtain ⟨x0, x1, x2, x3, x4, x5⟩ := l1.2; have c := C0 p hp; simp only [List.cons_append, List.nil_append, List.mem_cons] at c; rcases c with rfl | rfl | rfl | rfl | rfl | c <;> first | assumption | exact allNew_of (by assumption) _ c)
  intro p hp
  have key : p = (T1, ({ cls := .type "tuple", data := .seq #[Value.int pos tp, Value.ref O] 0 } : Obj)) ∨ p = (O, LCg.lst ss) ∨ p = (CX, listOf cs.toArray (n2 + 1)) ∨ p = (D, dictOf (PD.es w { d with curtype := ct, curstack := .ref CB }) 13) ∨ (p ∈ news ∧ p.1 ≠ CX ∧ p.1 ≠ D) := by
    simp only [List.mem_cons] at hp
    rcases hp with e | e | hp
    · simp [e]
    · simp [e]
    · rcases updF_cover (UCX _) hp with e | ⟨hp, e1⟩
      · exact .inr (.inr (.inl e))
      · rcases updF_cover UD hp with e | ⟨hp, e0⟩
        · exact .inr (.inr (.inr (.inl e)))
        · exact .inr (.inr (.inr (.inr ⟨hp, e1, e0⟩)))
  rcases key with rfl | rfl | rfl | rfl | ⟨hp, e0, e1⟩
  · exact N' _ (by simp)
  · exact N' _ (by simp)
  · exact N' _ (by simp)
  · exact N' _ (by simp)
  · have c := C0 p hp
    simp only [List.cons_append, List.nil_append, List.mem_cons] at c
    rcases c with rfl | rfl | rfl | rfl | rfl | c
    · exact N' _ (by simp)
    · exact absurd rfl (by assumption)
    · exact absurd rfl (by assumption)
    · exact N' _ (by simp)
    · exact N' _ (by simp)
    · exact N' _ (by simp [c])
end
end Mine
end
section
theorem Mine.freshU3 : True := by
  run_tac (do PyProof.Rows.walkLines.set (0, {}); PyProof.Rows.walkHit.set {}; PyProof.Rows.walkTop.set false; PyProof.Rows.walkStart.set 0; PyProof.Rows.walkLate.set false)
  trivial
open PySem PySem.W PySem.Calls PyProof.Rows PySem.Spec
set_option Elab.async false
set_option maxRecDepth 100000
set_option maxHeartbeats 400000
namespace Mine
theorem popI {w : World} {E : Value → Shared → Prop} {Q : Value → Shared → Prop} {s : Shared} {h₀ : Heap} {L fa : Addr} {cd : Value} {m : Str → Option Value} {nm : List (Str × NameKind)} {b1 b2 : Bool} {mr : List (Str × Const)} {cn : Str}
  {p : Program} {loose : List Str} {mean : ExcName → Option Value} {mg mb : Str → Option Value} {news : List (Addr × Obj)} {g : Obj → List (Addr × Obj)} {P D CU : Addr} {vs : List Value} {n : Nat} {d : PD} {k : Nat} {x : Int} {tk0 : Tok}
    (B : Below callerA h₀ [] h₀) (F : Fr h₀ L s.heap m) (X : (K w.params).In h₀) (T : Top p loose mean mg mb h₀)
    (N : News h₀ L s.heap news) (mP : (P, instObj 1367 D) ∈ news) (mD : (D, dictOf (d.es w) 13) ∈ news)
    (hcu : d.curstack = .ref CU) (hx : x = (k : Int)) (hk : 1 ≤ k) (hvs : vs.length ≤ 900)
    (U : UpdF CU (listOf vs.toArray n) news g)
    (h : ∀ h' tk R n', Fr h₀ L h' m → News h₀ L h' ((R, listOf (vs.drop (vs.length - k)).toArray 0) :: g (listOf (vs.take (vs.length - k)).toArray n')) → (∀ p ∈ news, @LT.lt Nat _ p.1 R) → Q (.ref R) { s with heap := h', toks := tk }) :
    wpAny (model PySem.Challenge.rw_ae5031_04.row.prog w) (callerA.deeper (envOfC cn ⟨.function, nm, b1, b2, mr⟩ L fa cd)) (call (.ref 1326) [.ref P, .int x tk0] []) Q E s := by
  subst hx
  exact popU B F X T N mP mD U hcu hk hvs (by omega) fun h' tk R n' => h h' tk R n'
end Mine
end
section
theorem Mine.freshU4 : True := by
  run_tac (do PyProof.Rows.walkLines.set (0, {}); PyProof.Rows.walkHit.set {}; PyProof.Rows.walkTop.set false; PyProof.Rows.walkStart.set 0; PyProof.Rows.walkLate.set false)
  trivial
open PySem PySem.W PySem.Calls PyProof.Rows
set_option Elab.async false
set_option maxRecDepth 100000
set_option maxHeartbeats 400000
set_option linter.unusedVariables false
set_option linter.unusedSimpArgs false
namespace Mine
section
variable {w : World} {E : Value → Shared → Prop} {Q : Value → Shared → Prop} {s : Shared} {h₀ : Heap} {L fa : Addr} {cd : Value} {m : Str → Option Value} {nm : List (Str × NameKind)} {b1 b2 : Bool} {mr : List (Str × Const)} {cn : Str}
  {p : Program} {loose : List Str} {mean : ExcName → Option Value} {mg mb : Str → Option Value} {news : List (Addr × Obj)} {g : Obj → List (Addr × Obj)} {g2 : Obj → Obj → List (Addr × Obj)} {P D CX CU RS TK FP FD BA PM : Addr} {vs cxs rs : List Value} {n n2 n3 : Nat} {d : PD} {v v2 : Value}
theorem asked3U {u1 u2 u3 ub uc : Tok} (B : Below callerA h₀ [] h₀) (F : Fr h₀ L s.heap m) (X : (K w.params).In h₀) (T : Top p loose mean mg mb h₀)
    (N : News h₀ L s.heap news) (mP : (P, instObj 1367 D) ∈ news) (mRS : (RS, listOf #[] n3) ∈ news) (mTK : (TK, listOf #[] n2) ∈ news) (mPM : (PM, methodObj (.ref 1186) (.ref P)) ∈ news) (mBA : (BA, ({ cls := .type "bytearray", data := .bytearray #[] 0 } : Obj)) ∈ news) (mFP : (FP, instObj 874 FD) ∈ news) (mFD : (FD, dictOf [ent w "_BytesIO__buf" u1 (.ref BA), ent w "_BytesIO__pos" u2 (.int 0 u3)] 2) ∈ news)
    (UD : UpdF D (dictOf (d.es w) 13) news g) (hresults : d.results = .ref RS) (heof : d.eof = .bool false) (htokens : d.tokens = .ref TK) (hfp : d.fp = .ref FP) (hbuf : d.buf = .bytes #[] ub) (hcharpos : d.charpos = .int 0 uc) (hparse1 : d.parse1 = .ref PM) (hRSTK : @Ne Nat RS TK) 
    (h : ∀ h' tk vb vf vc, Fr h₀ L h' m → News h₀ L h' (g (dictOf (PD.es w { d with eof := .bool true, bufpos := vb, buf := vf, charpos := vc }) 13)) → Q (.none) { s with heap := h', toks := tk }) :
    wpAny (model PySem.Challenge.rw_ae5031_04.row.prog w) (callerA.deeper (envOfC cn ⟨.function, nm, b1, b2, mr⟩ L fa cd)) (call (.ref 1656) [.ref P] []) Q E s := by
  have mD := updF_mem UD
  have hns : ∀ p ∈ ([(P, instObj 1367 D), (D, dictOf (d.es w) 13), (RS, listOf #[] n3), (TK, listOf #[] n2), (PM, methodObj (.ref 1186) (.ref P)), (BA, ({ cls := .type "bytearray", data := .bytearray #[] 0 } : Obj)), (FP, instObj 874 FD), (FD, dictOf [ent w "_BytesIO__buf" u1 (.ref BA), ent w "_BytesIO__pos" u2 (.int 0 u3)] 2)] : List (Addr × Obj)), p ∈ news := by
    intro p hp
    simp only [List.mem_cons, List.not_mem_nil, or_false] at hp
    rcases hp with rfl | rfl | rfl | rfl | rfl | rfl | rfl | rfl <;> assumption
  have hPD : @Ne Nat P D := ne_obj N mP mD (ne_cls (by simp))
  have hPRS : @Ne Nat P RS := ne_obj N mP mRS (ne_cls (by simp))
  have hPTK : @Ne Nat P TK := ne_obj N mP mTK (ne_cls (by simp))
  have hPPM : @Ne Nat P PM := ne_obj N mP mPM (ne_cls (by simp))
  have hPBA : @Ne Nat P BA := ne_obj N mP mBA (ne_cls (by simp))
  have hPFP : @Ne Nat P FP := ne_obj N mP mFP (ne_cls (by simp))
  have hPFD : @Ne Nat P FD := ne_obj N mP mFD (ne_cls (by simp))
  have hDRS : @Ne Nat D RS := ne_obj N mD mRS (ne_cls (by simp))
  have hDTK : @Ne Nat D TK := ne_obj N mD mTK (ne_cls (by simp))
  have hDPM : @Ne Nat D PM := ne_obj N mD mPM (ne_cls (by simp))
  have hDBA : @Ne Nat D BA := ne_obj N mD mBA (ne_cls (by simp))
  have hDFP : @Ne Nat D FP := ne_obj N mD mFP (ne_cls (by simp))
  have hDFD : @Ne Nat D FD := ne_obj N mD mFD (fun e => by have := congrArg Obj.data e; simp at this)
  have hRSPM : @Ne Nat RS PM := ne_obj N mRS mPM (ne_cls (by simp))
  have hRSBA : @Ne Nat RS BA := ne_obj N mRS mBA (ne_cls (by simp))
  have hRSFP : @Ne Nat RS FP := ne_obj N mRS mFP (ne_cls (by simp))
  have hRSFD : @Ne Nat RS FD := ne_obj N mRS mFD (ne_cls (by simp))
  have hTKPM : @Ne Nat TK PM := ne_obj N mTK mPM (ne_cls (by simp))
  have hTKBA : @Ne Nat TK BA := ne_obj N mTK mBA (ne_cls (by simp))
  have hTKFP : @Ne Nat TK FP := ne_obj N mTK mFP (ne_cls (by simp))
  have hTKFD : @Ne Nat TK FD := ne_obj N mTK mFD (ne_cls (by simp))
  have hPMBA : @Ne Nat PM BA := ne_obj N mPM mBA (ne_cls (by simp))
  have hPMFP : @Ne Nat PM FP := ne_obj N mPM mFP (ne_cls (by simp))
  have hPMFD : @Ne Nat PM FD := ne_obj N mPM mFD (ne_cls (by simp))
  have hBAFP : @Ne Nat BA FP := ne_obj N mBA mFP (ne_cls (by simp))
  have hBAFD : @Ne Nat BA FD := ne_obj N mBA mFD (ne_cls (by simp))
  have hFPFD : @Ne Nat FP FD := ne_obj N mFP mFD (ne_cls (by simp))
  have N0 := parts N hns
  have C0 := fun (p : Addr × Obj) (hp : p ∈ news) => cover N hns hp
  have oD9 : Off D [P, RS, TK, PM, BA, FP, FD] := fun b hb => by
    simp only [List.mem_cons, List.not_mem_nil, or_false] at hb
    rcases hb with rfl | rfl | rfl | rfl | rfl | rfl | rfl <;> first | assumption | (apply Ne.symm; assumption)
  refine asked3 B F X T N0 hresults heof htokens hfp hbuf hcharpos hparse1 (restOf_off (by simp)) oD9 ?_
  intro h' tk vb vf vc F' N' 
  refine h h' tk vb vf vc F' ?_ 
  intro p hp
  have key : p = (D, dictOf (PD.es w { d with eof := .bool true, bufpos := vb, buf := vf, charpos := vc }) 13) ∨ (p ∈ news ∧ p.1 ≠ D) := by
    exact updF_cover UD hp
  rcases key with rfl | ⟨hp, e0⟩
  · exact N' _ (by simp)
  · have c := C0 p hp
    simp only [List.cons_append, List.nil_append, List.mem_cons] at c
    rcases c with rfl | rfl | rfl | rfl | rfl | rfl | rfl | rfl | c
    · exact N' _ (by simp)
    · exact absurd rfl (by assumption)
    · exact N' _ (by simp)
    · exact N' _ (by simp)
    · exact N' _ (by simp)
    · exact N' _ (by simp)
    · exact N' _ (by simp)
    · exact N' _ (by simp)
    · exact N' _ (by simp [c])
end
end Mine
end
section
theorem Mine.freshR6 : True := by
  run_tac (do PyProof.Rows.walkLines.set (0, {}); PyProof.Rows.walkHit.set {}; PyProof.Rows.walkTop.set false; PyProof.Rows.walkStart.set 0; PyProof.Rows.walkLate.set false)
  trivial
open PySem PySem.W PySem.Calls PyProof.Rows
set_option Elab.async false
set_option maxRecDepth 100000
set_option maxHeartbeats 400000
set_option linter.unusedVariables false
set_option linter.unusedSimpArgs false
namespace Mine
open PySem.Spec
section
variable {prog : Program} {w : World} {A : Around} {E : Value → Shared → Prop} {s : Shared} {env : Env} {h₀ : Heap} {L l : Addr} {m : Str → Option Value} {news : List (Addr × Obj)} {vs : List Value} {n : Nat}
theorem item_any {value slice : PySem.Expr} {k : Int} {u : Tok} {v : Value} {Q : Value → Shared → Prop} (N : News h₀ L s.heap news) (hl : (l, listOf vs.toArray n) ∈ news) (hx : vs[k.toNat]? = some v) (h0 : 0 ≤ k) (hz : vs.length ≤ 1000)
    (hs : subscripted slice false (.ref l) (.int k u) = operate [.ref l, .int k u] (getItem (.ref l) (.int k u))) (h : Q v s) :
    wpAny (model prog w) A (subscriptTail value slice (.ref l) (.int k u)) Q E s :=
  have hl' := IsL.isList (N _ hl).1
  tail_any hl'.typeIs slot_list_getitem.lookup (wpAny_getItem_list hl' h0 (by
    have := (List.getElem?_eq_some_iff.mp hx).1
    omega) (by simpa using hx) h) hs
def Thing (news : List (Addr × Obj)) (v : Value) : Prop := ∃ t a ta x k, v = .ref t ∧ (t, ({ cls := .type "tuple", data := .seq #[Value.int a ta, x] k } : Obj)) ∈ news
set_option maxHeartbeats 3200000 in
theorem iter_down {Q : Flow → Shared → Prop} {x : Str} {body : List Stmt} {r : Addr} {a₀ b₀ : Int} {t₀ u₀ v₀ : Tok} {n : Nat} {m₀ : Str → Option Value} (J : Nat → (Str → Option Value) → List (Addr × Obj) → Prop)
    (hh : A.handled = none) (hr : IsRange s.heap r a₀ b₀ (-1) t₀ u₀ v₀) (hsmall : Builtin.Range.small a₀ b₀ (-1) = true) (hn : Builtin.Range.rangeSize a₀ b₀ (-1) = (n : Int)) (F : Fr h₀ env.locals s.heap m₀) (N : News h₀ env.locals s.heap news) (hj : J 0 m₀ news)
    (turn : ∀ (i : Nat) (k : Int) t m₁ nx h tk own, i < n → k = a₀ - i → OwnOff own (nx.map (·.1)) → J i m₁ nx → Fr h₀ env.locals h (fun y => if y = x then some (.int k t) else m₁ y) → News h₀ env.locals h (nx ++ own) →
      wpAny (model prog w) A (execs body env) (InvPostG h₀ env.locals (J (i + 1)) own { s with heap := h, toks := tk } Q) E { s with heap := h, toks := tk })
    (done : ∀ m₁ nx h tk, J n m₁ nx → Fr h₀ env.locals h m₁ → News h₀ env.locals h nx → Q .next { s with heap := h, toks := tk }) :
    wpAny (model prog w) A (pyIter (.ref r)) (fun it s₂ => LoopAtV prog w A h₀ env x body Q E it s₂) E s := by
  refine wpAny_pyIter_range hr hsmall ?_
  have W : Walks prog w A s.heap.objs.size [s.heap.objs.size] [s.heap.objs.size] n (fun i v => i < n ∧ ∃ t, v = .int (a₀ + i * (-1)) t)
      (fun i h => IsRangeIter h s.heap.objs.size (a₀ + (i : Nat) * (-1)) ((n : Int) - (i : Nat)) (-1)) := (Walks.range hh _ a₀ (-1) n).bound
  refine kdr_loop J W (fun _ h => h) (fun _ h => h) ?_ ?_ ?_ ?_ (by show IsRangeIter _ _ _ _ _; rw [hn]; simpa using Heap.get?_push_size _ rfl) (F.push _) (fun p hp => ⟨Heap.get?_push_of_some _ (N p hp).1, (N p hp).2⟩) hj ?_ ?_
  · intro i h hi b hb
    rw [List.mem_singleton.mp hb]
    exact ⟨_, hi⟩
  · intro hm
    exact absurd F.ns.lt ((List.mem_singleton.mp hm) ▸ Nat.lt_irrefl _)
  · intro b hb
    rw [List.mem_singleton.mp hb]
    exact next_is_new F
  · intro p hp hI
    exact absurd (Heap.lt_size (N p hp).1) ((List.mem_singleton.mp hI) ▸ Nat.lt_irrefl _)
  · rintro i v m₁ nx h tk own hi ⟨_, t, rfl⟩ hoff hJ F₁ N₁
    exact turn i _ t m₁ nx h tk own hi (by omega) hoff hJ F₁ N₁
  · exact done
theorem down_keep {Q : Flow → Shared → Prop} {x : Str} {body : List Stmt} {r : Addr} {a₀ b₀ : Int} {t₀ u₀ v₀ : Tok} {n : Nat} {m₀ : Str → Option Value} (P : Nat → Prop)
    (hh : A.handled = none) (hr : IsRange s.heap r a₀ b₀ (-1) t₀ u₀ v₀) (hsmall : Builtin.Range.small a₀ b₀ (-1) = true) (hn : Builtin.Range.rangeSize a₀ b₀ (-1) = (n : Int)) (F : Fr h₀ env.locals s.heap m₀) (N : News h₀ env.locals s.heap news) (hj : P 0)
    (turn : ∀ (i : Nat) (k : Int) t h tk own, i < n → k = a₀ - i → OwnOff own (news.map (·.1)) → P i → Fr h₀ env.locals h (fun y => if y = x then some (.int k t) else m₀ y) → News h₀ env.locals h (news ++ own) →
      wpAny (model prog w) A (execs body env) (InvPostG h₀ env.locals (fun m' nx => nx = news ∧ (∀ z, z ≠ x → m' z = m₀ z) ∧ P (i + 1)) own { s with heap := h, toks := tk } Q) E { s with heap := h, toks := tk })
    (done : ∀ m₁ h tk, P n → Fr h₀ env.locals h m₁ → News h₀ env.locals h news → Q .next { s with heap := h, toks := tk }) :
    wpAny (model prog w) A (pyIter (.ref r)) (fun it s₂ => LoopAtV prog w A h₀ env x body Q E it s₂) E s := by
  refine iter_down (fun i m' nx => nx = news ∧ (∀ z, z ≠ x → m' z = m₀ z) ∧ P i) hh hr hsmall hn F N ⟨rfl, fun _ _ => rfl, hj⟩ ?_ ?_
  · rintro i k t m₁ nx h tk own hi hk hoff ⟨rfl, hm, hP⟩ F₁ N₁
    have e : (fun y => if y = x then some (Value.int k t) else m₁ y) = fun y => if y = x then some (Value.int k t) else m₀ y := by
      funext z
      by_cases h1 : z = x
      · simp [h1]
      · simp only [if_neg h1]; exact hm z h1
    rw [e] at F₁
    exact turn i k t h tk own hi hk hoff hP F₁ N₁
  · rintro m₁ nx h tk ⟨rfl, _, hP⟩ F₁ N₁
    exact done m₁ h tk hP F₁ N₁
end
local macro_rules | `(tactic| walk_at "last subscriptTail") => `(tactic| (k_here; (with_reducible show wpAny _ _ (subscriptTail _ (PySem.Expr.Slice _ _ none _) (Value.ref _) (Value.ref _)) _ _ _); k_dflt (refine' slice_any ?F ?N ?l ?p ?q ?e ?_ ?s ?t ?z; (case F => k_asm); (case N => k_asm); (case l => k_mem); (case p => kmk_part); (case q => kmk_part); (case e => (first | exact pick_from (by omega) | exact pick_upto (by omega) | exact pick_neg (by first | omega | (refine Int.neg_neg_of_pos ?_; omega)))); (case s => with_unfolding_all rfl); (case t => kmk_pure); (case z => (first | assumption | omega | (simp only [List.length_cons, List.length_nil, List.length_append, List.length_take, List.length_drop]; omega)))); intro D' h' F' N' l1; (try k_lt l1); (try k_sweep)))
local macro_rules | `(tactic| walk_at "subscriptTail Name Slice ref ref") => `(tactic| (k_here; (with_reducible show wpAny _ _ (subscriptTail _ (PySem.Expr.Slice _ _ none _) (Value.ref _) (Value.ref _)) _ _ _); k_dflt (refine' slice_any ?F ?N ?l ?p ?q ?e ?_ ?s ?t ?z; (case F => k_asm); (case N => k_asm); (case l => k_mem); (case p => kmk_part); (case q => kmk_part); (case e => (first | exact pick_from (by omega) | exact pick_upto (by omega) | exact pick_neg (by first | omega | (refine Int.neg_neg_of_pos ?_; omega)))); (case s => with_unfolding_all rfl); (case t => kmk_pure); (case z => (first | assumption | omega | (simp only [List.length_cons, List.length_nil, List.length_append, List.length_take, List.length_drop]; omega)))); intro D' h' F' N' l1; (try k_lt l1); (try k_sweep)))
local macro_rules | `(tactic| walk_at "setItem ref") => `(tactic| (k_here; k_dflt (refine' setSlice_neg ?F ?N ?b ?ne ?U ?x ?z ?_; (case F => k_asm); (case N => k_asm); (case b => k_mem); (case ne => k_ne); (case U => k_upd); (case x => (first | omega | (refine Int.neg_neg_of_pos ?_; omega))); (case z => (first | assumption | omega | (simp only [List.length_cons, List.length_nil, List.length_append, List.length_take, List.length_drop]; omega)))); intro h' F' N'; (try k_sweep)))
local macro_rules | `(tactic| walk_at "call builtin:len") => `(tactic| (k_here; (with_reducible show wpAny _ _ (call (Value.builtin "len") [Value.ref _]) _ _ _); k_dflt (refine' len_any ?N ?m ?z ?_; (case N => k_asm); (case m => k_mem); (case z => (first | assumption | omega | (simp only [List.length_cons, List.length_nil, List.length_append, List.length_take, List.length_drop]; omega))))))
local macro_rules | `(tactic| walk_at "truthy ref") => `(tactic| (k_here; k_dflt (refine' truthy_any ?N ?m ?z ?_; (case N => k_asm); (case m => k_mem); (case z => (first | assumption | omega | (simp only [List.length_cons, List.length_nil, List.length_append, List.length_take, List.length_drop]; omega)))); (try simp only [List.isEmpty_cons, List.isEmpty_nil, Bool.not_false, Bool.not_true])))
local macro_rules | `(tactic| walk_at "call builtin:list.pop") => `(tactic| (k_here; k_dflt (first | (refine' pop_last ?F ?N ?U ?z ?_; (case F => k_asm); (case N => k_asm); (case U => k_upd); (case z => (first | assumption | omega | (simp only [List.length_cons, List.length_nil, List.length_append, List.length_take, List.length_drop]; omega)))) | (refine' pop_first ?F ?N ?U ?z ?_; (case F => k_asm); (case N => k_asm); (case U => k_upd); (case z => (first | assumption | omega | (simp only [List.length_cons, List.length_nil, List.length_append, List.length_take, List.length_drop]; omega))))); intro h' F' N'; (try k_sweep)))
local macro_rules | `(tactic| walk_at "pyReprObj str") => `(tactic| (refine pyReprObj_str (hx := ?hx) ?_; (case hx => (rw [PySem.sizeLine_eq]; omega))))
local macro_rules | `(tactic| walk_at "compareOp NotEq str str") => `(tactic| first | refine ne_strs_true (by assumption) ?_ | refine ne_strs_false ?_)
local macro_rules | `(tactic| walk_at "SrcLP") => `(tactic| (k_here; k_dflt (refine LCp.SrcLP.ledger (by rfl) (by k_asm) (by k_asm) (by k_mem) (by (simp only [List.size_toArray, PySem.sizeLine_eq]; omega)) ?_; intro g'; (rename Secs _ _ _ => hsec'); refine rest_snd (by rfl) (by rfl) (by decide) (.inr ⟨_, by k_mem, rfl, _, rfl⟩) _ _ 0 [] (hsec'.mono (fun p hp => (by simp only [List.mem_cons]; first | exact hp | exact .inr hp | exact .inr (.inr hp) | exact .inr (.inr (.inr hp)) | exact .inr (.inr (.inr (.inr hp))) | exact .inr (.inr (.inr (.inr (.inr hp))))))) (fun j v hj => by simpa using hj) ?_); intro D' h' tk' F' N' off'; (try simp only [LCg.Off1] at off')))
local macro_rules | `(tactic| walk_at "call builtin:len") => `(tactic| (k_here; (with_reducible show wpAny _ _ (call (Value.builtin "len") [Value.ref _]) _ _ _); k_dflt (refine' len_ba_K ?N ?m ?_; (case N => k_asm); (case m => k_mem))))
local macro_rules | `(tactic| walk_at "compareOp In int bytes") => `(tactic| (k_here; refine in_bytes_true (by decide +kernel) (by decide +kernel) (by decide +kernel) ?_))
local macro_rules | `(tactic| walk_at "truthy bytes") => `(tactic| (k_here; refine truthy_b0 ?_))
local macro_rules | `(tactic| walk_at "UnrEnd") => `(tactic| (k_here; k_dflt (refine UnrEnd.intro (by assumption) (by assumption) _ (fun p hp => hp) (my_off (by assumption)) ?_)))
local macro_rules | `(tactic| walk_at "exec While UnaryOp cons nil") => `(tactic| (k_here; k_dflt (refine whl_start 4 ?_)))
local macro_rules | `(tactic| walk_at "subscriptTail Name Name ref int") => `(tactic| (k_here; (with_reducible show wpAny _ _ (subscriptTail _ _ (Value.ref _) (Value.int _ _)) _ _ _); k_dflt (refine' item_any ?N ?m ?x ?a ?z ?s ?_; (case N => k_asm); (case m => k_mem); (case x => assumption); (case a => assumption); (case z => (first | assumption | omega | (simp only [List.length_cons, List.length_nil, List.length_append, List.length_take, List.length_drop]; omega))); (case s => with_unfolding_all rfl))))
local macro_rules | `(tactic| k_all) => `(tactic| assumption)
section
variable {w : World} {E : Value → Shared → Prop} {Q : Value → Shared → Prop} {s : Shared} {h₀ : Heap} {L fa : Addr} {cd : Value} {m : Str → Option Value} {nm : List (Str × NameKind)} {b1 b2 : Bool} {mr : List (Str × Const)} {cn : Str}
  {p : Program} {loose : List Str} {mean : ExcName → Option Value} {mg mb : Str → Option Value} {rest : List (Addr × Obj)} {P D CX CU RS TK FP FD BA PM : Addr} {vs cxs rs : List Value} {n n2 n3 : Nat} {d : PD} {v v2 : Value}
theorem begin0 {RW : Addr} {j : Nat} (B : Below callerA h₀ [] h₀) (F : Fr h₀ L s.heap m) (X : (K w.params).In h₀) (T : Top p loose mean mg mb h₀) (N : News h₀ L s.heap ((RW, listOf vs.toArray n) :: rest)) (hvs : vs.length ≤ 900)
    (hj : j ≤ vs.length) (hT : ∀ i v, j ≤ i → vs[i]? = some v → Thing rest v) (hM : j = 0 ∨ ∃ M x y k, vs[j - 1]? = some (.ref M) ∧ (M, ({ cls := .type "tuple", data := .seq #[.none, x, y] k } : Obj)) ∈ rest)
    (h : ∀ h' tk t, Fr h₀ L h' m → News h₀ L h' ((RW, listOf vs.toArray n) :: rest) → Q (.int ((j : Int) - 1) t) { s with heap := h', toks := tk }) :
    wpAny (model PySem.Challenge.rw_ae5031_04.row.prog w) (callerA.deeper (envOfC cn ⟨.function, nm, b1, b2, mr⟩ L fa cd)) (call (.ref 1642) [.ref RW] []) Q E s := by
  revert X; k_fill; intro X
  refine wpAny_call ?_
  k_enter
  k_steps
  have sz : (listOf vs.toArray n).data = .seq vs.toArray n := rfl
  (rename IsRange _ _ _ _ _ _ _ _ => hr')
  (rename Fr _ _ _ _ => lF')
  (rename News _ _ _ _ => lN')
  with_unfolding_all refine down_keep (n := vs.length) (fun i => i + j ≤ vs.length) rfl hr' ?hsm ?hn lF' lN' ?h0 ?turn ?done
  case hsm =>
    exact small_down (by omega) (by omega) (by omega) (by omega)
  case hn =>
    unfold Builtin.Range.rangeSize
    rw [if_neg (by decide)]
    by_cases hz : vs.length = 0
    · rw [if_neg (by omega)]; omega
    · rw [if_pos (by omega)]
      have e1 : (-(-1 : Int)) = 1 := rfl
      rw [e1, Int.ediv_one]
      omega
  case h0 => omega
  case turn =>
    intro i k t h' tk' own hi hk hoff hP F' N'
    clear lF' lN'
    have hlen : i < vs.length := hi
    by_cases hkj : j ≤ vs.length - 1 - i
    · obtain ⟨v, hv⟩ : ∃ v, vs[vs.length - 1 - i]? = some v := ⟨_, List.getElem?_eq_getElem (by omega)⟩
      obtain ⟨t', a, ta, x, kk, rfl, hmem⟩ := hT _ v hkj hv
      have hx : vs[k.toNat]? = some (.ref t') := by rw [← hv]; congr 1; omega
      have h0 : 0 ≤ k := by omega
      replace N' : News _ _ _ ((t', ({ cls := .type "tuple", data := .seq #[Value.int a ta, x] kk } : Obj)) :: (RW, listOf vs.toArray n) :: (rest ++ own)) := fun p hp => by
        rcases List.mem_cons.mp hp with rfl | hp
        · exact N' _ (List.mem_append.mpr (.inl (.tail _ hmem)))
        · exact N' _ hp
      k_steps
      refine InvEndG.intro (by assumption) (by assumption) ⟨rfl, fun z hz => by simp [hz], by omega⟩ hoff ?_ ?_
      · intro p hp
        rcases List.mem_cons.mp hp with rfl | hp
        · exact .tail _ (.head _)
        · exact .tail _ (.tail _ (List.mem_append.mpr (.inl hp)))
      · exact fun p hp => .tail _ (.tail _ (List.mem_append.mpr (.inr hp)))
    · rcases hM with rfl | ⟨M, x, y, kk, hv, hmem⟩
      · omega
      have h0 : 0 ≤ k := by omega
      have hkj' : vs.length - 1 - i = j - 1 := by omega
      obtain rfl : k = (j : Int) - 1 := by omega
      have hx : vs[((j : Int) - 1).toNat]? = some (.ref M) := by rw [← hv]; congr 1; omega
      replace N' : News _ _ _ ((M, ({ cls := .type "tuple", data := .seq #[.none, x, y] kk } : Obj)) :: (RW, listOf vs.toArray n) :: (rest ++ own)) := fun p hp => by
        rcases List.mem_cons.mp hp with rfl | hp
        · exact N' _ (List.mem_append.mpr (.inl (.tail _ hmem)))
        · exact N' _ hp
      k_steps
      refine h _ _ _ (by assumption) (fun p hp => (by assumption : News _ _ _ _) p ?_)
      rcases List.mem_cons.mp hp with rfl | hp
      · exact .tail _ (.head _)
      · exact .tail _ (.tail _ (List.mem_append.mpr (.inl hp)))
  case done =>
    intro m₁ h' tk' hP F' N'
    clear lF' lN'
    obtain rfl : j = 0 := by omega
    k_steps
    exact h _ _ _ (by assumption) (by assumption)
theorem beginU {RW : Addr} {j : Nat} {nt : List (Addr × Obj)} (B : Below callerA h₀ [] h₀) (F : Fr h₀ L s.heap m) (X : (K w.params).In h₀) (T : Top p loose mean mg mb h₀) (N : News h₀ L s.heap rest) (mRW : (RW, listOf vs.toArray n) ∈ rest) (hs : ∀ p ∈ nt, p ∈ rest) (hvs : vs.length ≤ 900)
    (hj : j ≤ vs.length) (hT : ∀ i v, j ≤ i → vs[i]? = some v → Thing nt v) (hM : j = 0 ∨ ∃ M x y k, vs[j - 1]? = some (.ref M) ∧ (M, ({ cls := .type "tuple", data := .seq #[.none, x, y] k } : Obj)) ∈ nt)
    (h : ∀ h' tk t, Fr h₀ L h' m → News h₀ L h' rest → Q (.int ((j : Int) - 1) t) { s with heap := h', toks := tk }) :
    wpAny (model PySem.Challenge.rw_ae5031_04.row.prog w) (callerA.deeper (envOfC cn ⟨.function, nm, b1, b2, mr⟩ L fa cd)) (call (.ref 1642) [.ref RW] []) Q E s :=
  begin0 B F X T (fun p hp => (List.mem_cons.mp hp).elim (fun e => e ▸ N _ mRW) (N p)) hvs hj (fun i v hi hv => by obtain ⟨t, a, ta, x, k, e, hm⟩ := hT i v hi hv; exact ⟨t, a, ta, x, k, e, hs _ hm⟩) (hM.imp id fun ⟨M, x, y, k, e, hm⟩ => ⟨M, x, y, k, e, hs _ hm⟩) fun h' tk t F' N' => h h' tk t F' fun p hp => N' p (.tail _ hp)
end
end Mine
end
section
theorem Mine.freshS1 : True := by
  run_tac (do PyProof.Rows.walkLines.set (0, {}); PyProof.Rows.walkHit.set {}; PyProof.Rows.walkTop.set false; PyProof.Rows.walkStart.set 0; PyProof.Rows.walkLate.set false)
  trivial
open PySem PySem.W PySem.Calls PyProof.Rows PySem.Spec
set_option Elab.async false
set_option maxRecDepth 100000
set_option maxHeartbeats 400000
set_option linter.unusedVariables false
set_option linter.unusedSimpArgs false
namespace Mine
structure Lev where
  (LA MA CA : Addr) (items : List Value) (n : Nat) (pos : Int) (kind : Str)
abbrev tup (its : List Value) (k : Nat) : Obj := { cls := .type "tuple", data := .seq its.toArray k }
def rowOf : List Lev → List Value → List Value
  | [], cur => cur
  | l :: ls, cur => rowOf ls l.items ++ .ref l.MA :: cur
def ctxOf : List Lev → List Value
  | [] => []
  | l :: ls => ctxOf ls ++ [.ref l.CA]
def levL (ls : List Lev) : List (Addr × Obj) := ls.map fun l => (l.LA, listOf l.items.toArray l.n)
def begJ : List Lev → Nat
  | [] => 0
  | l :: ls => (rowOf ls l.items).length + 1
inductive CtOf : List Lev → Value → Prop
  | nil : CtOf [] .none
  | cons (l : Lev) (r : List Lev) (t : Tok) : CtOf (l :: r) (.str l.kind t)
def Kd (k : Str) : Prop := k = Str.ofString "a" ∨ k = Str.ofString "d" ∨ k = Str.ofString "p"
inductive LevsOk (nx : List (Addr × Obj)) : List Lev → Prop
  | nil : LevsOk nx []
  | cons {l : Lev} {ls : List Lev} {tm tk tp : Tok} {ct : Value} {km : Nat} (hM : (l.MA, ({ cls := .type "tuple", data := .seq #[Value.none, .int l.pos tm, .str l.kind tk] km } : Obj)) ∈ nx)
      (hC : (l.CA, ({ cls := .type "tuple", data := .seq #[Value.int l.pos tp, ct, .ref l.LA] 0 } : Obj)) ∈ nx) (hct : CtOf ls ct) (hT : ∀ v ∈ l.items, Thing nx v) (hk : Kd l.kind) (r : LevsOk nx ls) : LevsOk nx (l :: ls)
theorem Thing.mono {nx nx' : List (Addr × Obj)} {v : Value} (h : Thing nx v) (hs : ∀ p ∈ nx, p ∈ nx') : Thing nx' v := by
  obtain ⟨t, a, ta, x, k, e, hm⟩ := h
  exact ⟨t, a, ta, x, k, e, hs _ hm⟩
theorem LevsOk.mono {nx nx' : List (Addr × Obj)} {ls : List Lev} (h : LevsOk nx ls) (hs : ∀ p ∈ nx, p ∈ nx') : LevsOk nx' ls := by
  induction h with
  | nil => exact .nil
  | cons hM hC hct hT hk _ ih => exact .cons (hs _ hM) (hs _ hC) hct (fun v hv => (hT v hv).mono hs) hk ih
theorem CtOf.kind {ls : List Lev} {v : Value} (h : CtOf ls v) : v = .none ∨ ∃ k t, v = .str k t := by
  cases h with
  | nil => exact .inl rfl
  | cons l r t => exact .inr ⟨_, _, rfl⟩
theorem secs_of {nx : List (Addr × Obj)} : ∀ {vs : List Value}, (∀ v ∈ vs, Thing nx v) → ∃ ss, Secs nx vs ss
  | [], _ => ⟨[], .nil⟩
  | v :: vs, h => by
    obtain ⟨ss, hs⟩ := secs_of fun u hu => h u (.tail _ hu)
    obtain ⟨t, a, ta, x, k, rfl, hm⟩ := h v (.head _)
    exact ⟨x :: ss, .cons hm hs⟩
theorem row_len (ls : List Lev) (cur : List Value) : (rowOf ls cur).length = begJ ls + cur.length := by
  cases ls with
  | nil => simp [rowOf, begJ]
  | cons l ls => simp only [rowOf, begJ, List.length_append, List.length_cons]; omega
theorem row_drop (ls : List Lev) (cur : List Value) : (rowOf ls cur).drop (begJ ls) = cur := by
  cases ls with
  | nil => rfl
  | cons l ls =>
    simp only [rowOf, begJ]
    rw [List.drop_append]
    simp
theorem row_take (ls : List Lev) (cur : List Value) : (rowOf ls cur).take (begJ ls) = rowOf ls [] := by
  cases ls with
  | nil => simp [rowOf, begJ]
  | cons l ls =>
    simp only [rowOf, begJ]
    rw [List.take_append, List.take_of_length_le (Nat.le_succ _)]
    simp
theorem row_take_out (l : Lev) (ls : List Lev) (cur : List Value) : (rowOf (l :: ls) cur).take (rowOf ls l.items).length = rowOf ls l.items := by
  simp [rowOf]
theorem row_at (l : Lev) (ls : List Lev) (cur : List Value) : (rowOf (l :: ls) cur)[(rowOf ls l.items).length]? = some (.ref l.MA) := by
  simp [rowOf]
theorem row_push (ls : List Lev) (cur xs : List Value) : rowOf ls cur ++ xs = rowOf ls (cur ++ xs) := by
  cases ls with
  | nil => rfl
  | cons l ls => simp [rowOf]
theorem row_cut (ls : List Lev) (cur : List Value) (k : Nat) (hk : k ≤ cur.length) : (rowOf ls cur).take ((rowOf ls cur).length - k) = rowOf ls (cur.take (cur.length - k)) := by
  cases ls with
  | nil => rfl
  | cons l ls =>
    simp only [rowOf, List.length_append, List.length_cons]
    rw [List.take_append, List.take_of_length_le (by omega)]
    congr 1
    have : (rowOf ls l.items).length + (cur.length + 1) - k - (rowOf ls l.items).length = (cur.length - k) + 1 := by omega
    rw [this, List.take_succ_cons]
theorem row_cut2 (ls : List Lev) (cur : List Value) (k : Nat) (hk : k ≤ cur.length) : (rowOf ls cur).drop ((rowOf ls cur).length - k) = cur.drop (cur.length - k) := by
  cases ls with
  | nil => rfl
  | cons l ls =>
    simp only [rowOf, List.length_append, List.length_cons]
    rw [List.drop_append, List.drop_of_length_le (by omega), List.nil_append]
    have : (rowOf ls l.items).length + (cur.length + 1) - k - (rowOf ls l.items).length = (cur.length - k) + 1 := by omega
    rw [this, List.drop_succ_cons]
theorem beg_ok {nx : List (Addr × Obj)} {ls : List Lev} {cur : List Value} (hl : LevsOk nx ls) (hc : ∀ v ∈ cur, Thing nx v) :
    begJ ls ≤ (rowOf ls cur).length ∧ (∀ i v, begJ ls ≤ i → (rowOf ls cur)[i]? = some v → Thing nx v) ∧ (begJ ls = 0 ∨ ∃ M x y k, (rowOf ls cur)[begJ ls - 1]? = some (.ref M) ∧ (M, ({ cls := .type "tuple", data := .seq #[Value.none, x, y] k } : Obj)) ∈ nx) := by
  refine ⟨by rw [row_len]; omega, fun i v hi hv => ?_, ?_⟩
  · have h2 : ((rowOf ls cur).drop (begJ ls))[i - begJ ls]? = some v := by
      rw [List.getElem?_drop, show begJ ls + (i - begJ ls) = i by omega]; exact hv
    rw [row_drop] at h2
    exact hc v (List.mem_of_getElem? h2)
  · cases hl with
    | nil => exact .inl rfl
    | cons hM hC hct hT hk r => exact .inr ⟨_, _, _, _, by rw [begJ, Nat.add_sub_cancel]; exact row_at _ _ _, hM⟩
end Mine
end
section
theorem Mine.freshT1 : True := by
  run_tac (do PyProof.Rows.walkLines.set (0, {}); PyProof.Rows.walkHit.set {}; PyProof.Rows.walkTop.set false; PyProof.Rows.walkStart.set 0; PyProof.Rows.walkLate.set false)
  trivial
open PySem PySem.W PySem.Calls PyProof.Rows
set_option Elab.async false
set_option maxRecDepth 100000
set_option maxHeartbeats 400000
set_option linter.unusedVariables false
set_option linter.unusedSimpArgs false
namespace Mine
local macro_rules | `(tactic| walk_at "last subscriptTail") => `(tactic| (k_here; (with_reducible show wpAny _ _ (subscriptTail _ (PySem.Expr.Slice _ _ none _) (Value.ref _) (Value.ref _)) _ _ _); k_dflt (refine' slice_any ?F ?N ?l ?p ?q ?e ?_ ?s ?t ?z; (case F => k_asm); (case N => k_asm); (case l => k_mem); (case p => kmk_part); (case q => kmk_part); (case e => (first | exact pick_from (by omega) | exact pick_upto (by omega) | exact pick_neg (by first | omega | (refine Int.neg_neg_of_pos ?_; omega)))); (case s => with_unfolding_all rfl); (case t => kmk_pure); (case z => (first | assumption | omega | (simp only [List.length_cons, List.length_nil, List.length_append, List.length_take, List.length_drop]; omega)))); intro D' h' F' N' l1; (try k_lt l1); (try k_sweep)))
local macro_rules | `(tactic| walk_at "subscriptTail Name Slice ref ref") => `(tactic| (k_here; (with_reducible show wpAny _ _ (subscriptTail _ (PySem.Expr.Slice _ _ none _) (Value.ref _) (Value.ref _)) _ _ _); k_dflt (refine' slice_any ?F ?N ?l ?p ?q ?e ?_ ?s ?t ?z; (case F => k_asm); (case N => k_asm); (case l => k_mem); (case p => kmk_part); (case q => kmk_part); (case e => (first | exact pick_from (by omega) | exact pick_upto (by omega) | exact pick_neg (by first | omega | (refine Int.neg_neg_of_pos ?_; omega)))); (case s => with_unfolding_all rfl); (case t => kmk_pure); (case z => (first | assumption | omega | (simp only [List.length_cons, List.length_nil, List.length_append, List.length_take, List.length_drop]; omega)))); intro D' h' F' N' l1; (try k_lt l1); (try k_sweep)))
local macro_rules | `(tactic| walk_at "setItem ref") => `(tactic| (k_here; k_dflt (refine' setSlice_neg ?F ?N ?b ?ne ?U ?x ?z ?_; (case F => k_asm); (case N => k_asm); (case b => k_mem); (case ne => k_ne); (case U => k_upd); (case x => (first | omega | (refine Int.neg_neg_of_pos ?_; omega))); (case z => (first | assumption | omega | (simp only [List.length_cons, List.length_nil, List.length_append, List.length_take, List.length_drop]; omega)))); intro h' F' N'; (try k_sweep)))
local macro_rules | `(tactic| walk_at "call builtin:len") => `(tactic| (k_here; (with_reducible show wpAny _ _ (call (Value.builtin "len") [Value.ref _]) _ _ _); k_dflt (refine' len_any ?N ?m ?z ?_; (case N => k_asm); (case m => k_mem); (case z => (first | assumption | omega | (simp only [List.length_cons, List.length_nil, List.length_append, List.length_take, List.length_drop]; omega))))))
local macro_rules | `(tactic| walk_at "truthy ref") => `(tactic| (k_here; k_dflt (refine' truthy_any ?N ?m ?z ?_; (case N => k_asm); (case m => k_mem); (case z => (first | assumption | omega | (simp only [List.length_cons, List.length_nil, List.length_append, List.length_take, List.length_drop]; omega)))); (try simp only [List.isEmpty_cons, List.isEmpty_nil, Bool.not_false, Bool.not_true])))
local macro_rules | `(tactic| walk_at "call builtin:list.pop") => `(tactic| (k_here; k_dflt (first | (refine' pop_last ?F ?N ?U ?z ?_; (case F => k_asm); (case N => k_asm); (case U => k_upd); (case z => (first | assumption | omega | (simp only [List.length_cons, List.length_nil, List.length_append, List.length_take, List.length_drop]; omega)))) | (refine' pop_first ?F ?N ?U ?z ?_; (case F => k_asm); (case N => k_asm); (case U => k_upd); (case z => (first | assumption | omega | (simp only [List.length_cons, List.length_nil, List.length_append, List.length_take, List.length_drop]; omega))))); intro h' F' N'; (try k_sweep)))
local macro_rules | `(tactic| walk_at "pyReprObj str") => `(tactic| (refine pyReprObj_str (hx := ?hx) ?_; (case hx => (rw [PySem.sizeLine_eq]; omega))))
local macro_rules | `(tactic| walk_at "compareOp NotEq str str") => `(tactic| first | refine ne_strs_true (by assumption) ?_ | refine ne_strs_false ?_)
local macro_rules | `(tactic| walk_at "SrcLP") => `(tactic| (k_here; k_dflt (refine LCp.SrcLP.ledger (by rfl) (by k_asm) (by k_asm) (by k_mem) (by (simp only [List.size_toArray, PySem.sizeLine_eq]; omega)) ?_; intro g'; (rename Secs _ _ _ => hsec'); refine rest_snd (by rfl) (by rfl) (by decide) (.inr ⟨_, by k_mem, rfl, _, rfl⟩) _ _ 0 [] (hsec'.mono (fun p hp => (by simp only [List.mem_cons]; first | exact hp | exact .inr hp | exact .inr (.inr hp) | exact .inr (.inr (.inr hp)) | exact .inr (.inr (.inr (.inr hp))) | exact .inr (.inr (.inr (.inr (.inr hp))))))) (fun j v hj => by simpa using hj) ?_); intro D' h' tk' F' N' off'; (try simp only [LCg.Off1] at off')))
local macro_rules | `(tactic| walk_at "call builtin:len") => `(tactic| (k_here; (with_reducible show wpAny _ _ (call (Value.builtin "len") [Value.ref _]) _ _ _); k_dflt (refine' len_ba_K ?N ?m ?_; (case N => k_asm); (case m => k_mem))))
local macro_rules | `(tactic| walk_at "compareOp In int bytes") => `(tactic| (k_here; refine in_bytes_true (by decide +kernel) (by decide +kernel) (by decide +kernel) ?_))
local macro_rules | `(tactic| walk_at "truthy bytes") => `(tactic| (k_here; refine truthy_b0 ?_))
local macro_rules | `(tactic| walk_at "UnrEnd") => `(tactic| (k_here; k_dflt (refine UnrEnd.intro (by assumption) (by assumption) _ (fun p hp => hp) (my_off (by assumption)) ?_)))
local macro_rules | `(tactic| walk_at "exec While UnaryOp cons nil") => `(tactic| (k_here; k_dflt (refine whl_start 4 ?_)))
local macro_rules | `(tactic| walk_at "call ref") => `(tactic| (k_here; (with_reducible show wpAny _ _ (call (Value.ref 1642) [Value.ref _] []) _ _ _); k_dflt (refine' beginU (nt := ?nt) ?B ?F ?X ?T ?N ?m ?s ?z ?j ?t ?M ?_; (case B => assumption); (case F => k_asm); (case X => assumption); (case T => assumption); (case N => k_asm); (case m => k_mem); (case z => (first | assumption | omega | (simp only [List.length_cons, List.length_nil, List.length_append, List.length_take, List.length_drop]; omega))); (case j => assumption); (case t => assumption); (case M => assumption); (case s => (intro p hp; simp only [List.mem_cons, hp, or_true]))); intro h' tk' t' F' N'))
local macro_rules | `(tactic| walk_at "subscriptTail Name Name ref int") => `(tactic| (k_here; (with_reducible show wpAny _ _ (subscriptTail _ _ (Value.ref _) (Value.int _ _)) _ _ _); k_dflt (refine' item_any ?N ?m ?x ?a ?z ?s ?_; (case N => k_asm); (case m => k_mem); (case x => assumption); (case a => first | assumption | omega); (case z => (first | assumption | omega | (simp only [List.length_cons, List.length_nil, List.length_append, List.length_take, List.length_drop]; omega))); (case s => with_unfolding_all rfl))))
local macro_rules | `(tactic| walk_at "subscriptTail Name BinOp ref int") => `(tactic| (k_here; (with_reducible show wpAny _ _ (subscriptTail _ _ (Value.ref _) (Value.int _ _)) _ _ _); k_dflt (refine' item_any ?N ?m ?x ?a ?z ?s ?_; (case N => k_asm); (case m => k_mem); (case x => assumption); (case a => first | assumption | omega); (case z => (first | assumption | omega | (simp only [List.length_cons, List.length_nil, List.length_append, List.length_take, List.length_drop]; omega))); (case s => with_unfolding_all rfl))))
section
variable {w : World} {E : Value → Shared → Prop} {Q : Flow → Shared → Prop} {s : Shared} {h₀ : Heap} {L fa : Addr} {cd : Value} {u : Str → Option Value}
  {p : Program} {loose : List Str} {mean : ExcName → Option Value} {mg mb : Str → Option Value} {rest : List (Addr × Obj)}
theorem head0 {RW WT KD : Addr} {row : List Value} {nR nK j : Nat} {n : Int} {t ta td tp : Tok} {kd : Value} {X1 : Stmt} (B : Below callerA h₀ [] h₀) (X : (K w.params).In h₀) (T : Top p loose mean mg mb h₀) (F : Fr h₀ L s.heap (fun y => if y = Str.ofString "number" then some (Value.int n t) else if y = Str.ofString "row" then some (.ref RW) else if y = Str.ofString "waiting" then some (.ref WT) else if y = Str.ofString "kinds" then some (.ref KD) else u y))
    (N : News h₀ L s.heap ((RW, listOf row.toArray nR) :: (KD, listOf #[.str (Str.ofString "a") ta, .str (Str.ofString "d") td, .str (Str.ofString "p") tp] nK) :: rest)) (hvs : row.length ≤ 900)
    (hj : j ≤ row.length) (hT : ∀ i v, j ≤ i → row[i]? = some v → Thing rest v) (hM : j = 0 ∨ ∃ M x y k, row[j - 1]? = some (.ref M) ∧ (M, ({ cls := .type "tuple", data := .seq #[.none, x, y] k } : Obj)) ∈ rest)
    (hkd : [Value.str (Str.ofString "a") ta, .str (Str.ofString "d") td, .str (Str.ofString "p") tp][(((n.fmod 110000).fdiv 11).fmod 3).toNat]? = some kd)
    (h : ∀ h' tk T0 T1 T2 Tp o0 op tb td' tr a1 b1 b2 bx nx, Fr h₀ L h' (fun y => if y = Str.ofString "first" then some (Value.ref T1) else if y = Str.ofString "second" then some (Value.ref T2) else if y = Str.ofString "kind" then some kd else if y = Str.ofString "begin" then some (Value.int ((j : Int) - 1) tb) else if y = Str.ofString "deed" then some (Value.int ((n.fmod 110000).fmod 11) td') else if y = Str.ofString "rest" then some (Value.int ((n.fmod 110000).fdiv 11) tr) else if y = Str.ofString "rest" then bx else if y = Str.ofString "number" then nx else if y = Str.ofString "row" then some (Value.ref RW) else if y = Str.ofString "waiting" then some (Value.ref WT) else if y = Str.ofString "kinds" then some (Value.ref KD) else u y) →
      News h₀ L h' ((T0, o0) :: (T2, ({ cls := .type "tuple", data := .seq #[.int (((n.fmod 110000).fdiv 11).fmod 50 + 1) b1, .int ((n.fmod 110000).fdiv 11 + 1) b2] 0 } : Obj)) :: (T1, ({ cls := .type "tuple", data := .seq #[.int (((n.fmod 110000).fdiv 11).fmod 50) a1, .int ((n.fmod 110000).fdiv 11) tr] 0 } : Obj)) :: (Tp, op) :: (RW, listOf row.toArray nR) :: (KD, listOf #[.str (Str.ofString "a") ta, .str (Str.ofString "d") td, .str (Str.ofString "p") tp] nK) :: rest) →
      (Tp < T1 ∧ RW < T1 ∧ KD < T1 ∧ AllLt T1 rest) → (T1 < T2 ∧ Tp < T2 ∧ RW < T2 ∧ KD < T2 ∧ AllLt T2 rest) → wpAny (model PySem.Challenge.rw_ae5031_04.row.prog w) (callerA.deeper (envOfC (Str.ofString "law") lawScope L fa cd)) (exec X1 (envOfC (Str.ofString "law") lawScope L fa cd)) (fun f s' => match f with | .next => wpAny (model PySem.Challenge.rw_ae5031_04.row.prog w) (callerA.deeper (envOfC (Str.ofString "law") lawScope L fa cd)) (execs [] (envOfC (Str.ofString "law") lawScope L fa cd)) Q E s' | f => Q f s') E { s with heap := h', toks := tk }) :
    wpAny (model PySem.Challenge.rw_ae5031_04.row.prog w) (callerA.deeper (envOfC (Str.ofString "law") lawScope L fa cd)) (execs (forHead ++ [X1]) (envOfC (Str.ofString "law") lawScope L fa cd)) Q E s := by
  revert X
  k_fill
  intro X
  simp only [forHead, List.cons_append, List.nil_append]
  have hr0 : 0 ≤ ((n.fmod 110000).fdiv 11).fmod 3 := Int.fmod_nonneg_of_pos _ (by decide)
  k_steps
  exact h _ _ _ _ _ _ _ _ _ _ _ _ _ _ _ _ (by assumption) (by assumption) (by assumption) (by assumption)
end
end Mine
end
section
theorem Mine.freshD1 : True := by
  run_tac (do PyProof.Rows.walkLines.set (0, {}); PyProof.Rows.walkHit.set {}; PyProof.Rows.walkTop.set false; PyProof.Rows.walkStart.set 0; PyProof.Rows.walkLate.set false)
  trivial
open PySem PySem.W PySem.Calls PyProof.Rows
set_option Elab.async false
set_option maxRecDepth 100000
set_option maxHeartbeats 400000
set_option linter.unusedVariables false
set_option linter.unusedSimpArgs false
namespace Mine
local macro_rules | `(tactic| walk_at "last subscriptTail") => `(tactic| (k_here; (with_reducible show wpAny _ _ (subscriptTail _ (PySem.Expr.Slice _ _ none _) (Value.ref _) (Value.ref _)) _ _ _); k_dflt (refine' slice_any ?F ?N ?l ?p ?q ?e ?_ ?s ?t ?z; (case F => k_asm); (case N => k_asm); (case l => k_mem); (case p => kmk_part); (case q => kmk_part); (case e => (first | exact pick_from (by omega) | exact pick_upto (by omega) | exact pick_neg (by first | omega | (refine Int.neg_neg_of_pos ?_; omega)))); (case s => with_unfolding_all rfl); (case t => kmk_pure); (case z => (first | assumption | omega | (simp only [List.length_cons, List.length_nil, List.length_append, List.length_take, List.length_drop]; omega)))); intro D' h' F' N' l1; (try k_lt l1); (try k_sweep)))
local macro_rules | `(tactic| walk_at "subscriptTail Name Slice ref ref") => `(tactic| (k_here; (with_reducible show wpAny _ _ (subscriptTail _ (PySem.Expr.Slice _ _ none _) (Value.ref _) (Value.ref _)) _ _ _); k_dflt (refine' slice_any ?F ?N ?l ?p ?q ?e ?_ ?s ?t ?z; (case F => k_asm); (case N => k_asm); (case l => k_mem); (case p => kmk_part); (case q => kmk_part); (case e => (first | exact pick_from (by omega) | exact pick_upto (by omega) | exact pick_neg (by first | omega | (refine Int.neg_neg_of_pos ?_; omega)))); (case s => with_unfolding_all rfl); (case t => kmk_pure); (case z => (first | assumption | omega | (simp only [List.length_cons, List.length_nil, List.length_append, List.length_take, List.length_drop]; omega)))); intro D' h' F' N' l1; (try k_lt l1); (try k_sweep)))
local macro_rules | `(tactic| walk_at "setItem ref") => `(tactic| (k_here; k_dflt (refine' setSlice_neg ?F ?N ?b ?ne ?U ?x ?z ?_; (case F => k_asm); (case N => k_asm); (case b => k_mem); (case ne => k_ne); (case U => k_upd); (case x => (first | omega | (refine Int.neg_neg_of_pos ?_; omega))); (case z => (first | assumption | omega | (simp only [List.length_cons, List.length_nil, List.length_append, List.length_take, List.length_drop]; omega)))); intro h' F' N'; (try k_sweep)))
local macro_rules | `(tactic| walk_at "call builtin:len") => `(tactic| (k_here; (with_reducible show wpAny _ _ (call (Value.builtin "len") [Value.ref _]) _ _ _); k_dflt (refine' len_any ?N ?m ?z ?_; (case N => k_asm); (case m => k_mem); (case z => (first | assumption | omega | (simp only [List.length_cons, List.length_nil, List.length_append, List.length_take, List.length_drop]; omega))))))
local macro_rules | `(tactic| walk_at "truthy ref") => `(tactic| (k_here; k_dflt (refine' truthy_any ?N ?m ?z ?_; (case N => k_asm); (case m => k_mem); (case z => (first | assumption | omega | (simp only [List.length_cons, List.length_nil, List.length_append, List.length_take, List.length_drop]; omega)))); (try simp only [List.isEmpty_cons, List.isEmpty_nil, Bool.not_false, Bool.not_true])))
local macro_rules | `(tactic| walk_at "call builtin:list.pop") => `(tactic| (k_here; k_dflt (first | (refine' pop_last ?F ?N ?U ?z ?_; (case F => k_asm); (case N => k_asm); (case U => k_upd); (case z => (first | assumption | omega | (simp only [List.length_cons, List.length_nil, List.length_append, List.length_take, List.length_drop]; omega)))) | (refine' pop_first ?F ?N ?U ?z ?_; (case F => k_asm); (case N => k_asm); (case U => k_upd); (case z => (first | assumption | omega | (simp only [List.length_cons, List.length_nil, List.length_append, List.length_take, List.length_drop]; omega))))); intro h' F' N'; (try k_sweep)))
local macro_rules | `(tactic| walk_at "pyReprObj str") => `(tactic| (refine pyReprObj_str (hx := ?hx) ?_; (case hx => (rw [PySem.sizeLine_eq]; omega))))
local macro_rules | `(tactic| walk_at "compareOp NotEq str str") => `(tactic| first | refine ne_strs_true (by assumption) ?_ | refine ne_strs_false ?_)
local macro_rules | `(tactic| walk_at "SrcLP") => `(tactic| (k_here; k_dflt (refine LCp.SrcLP.ledger (by rfl) (by k_asm) (by k_asm) (by k_mem) (by (simp only [List.size_toArray, PySem.sizeLine_eq]; omega)) ?_; intro g'; (rename Secs _ _ _ => hsec'); refine rest_snd (by rfl) (by rfl) (by decide) (.inr ⟨_, by k_mem, rfl, _, rfl⟩) _ _ 0 [] (hsec'.mono (fun p hp => (by simp only [List.mem_cons]; first | exact hp | exact .inr hp | exact .inr (.inr hp) | exact .inr (.inr (.inr hp)) | exact .inr (.inr (.inr (.inr hp))) | exact .inr (.inr (.inr (.inr (.inr hp))))))) (fun j v hj => by simpa using hj) ?_); intro D' h' tk' F' N' off'; (try simp only [LCg.Off1] at off')))
local macro_rules | `(tactic| walk_at "call builtin:len") => `(tactic| (k_here; (with_reducible show wpAny _ _ (call (Value.builtin "len") [Value.ref _]) _ _ _); k_dflt (refine' len_ba_K ?N ?m ?_; (case N => k_asm); (case m => k_mem))))
local macro_rules | `(tactic| walk_at "compareOp In int bytes") => `(tactic| (k_here; refine in_bytes_true (by decide +kernel) (by decide +kernel) (by decide +kernel) ?_))
local macro_rules | `(tactic| walk_at "truthy bytes") => `(tactic| (k_here; refine truthy_b0 ?_))
local macro_rules | `(tactic| walk_at "UnrEnd") => `(tactic| (k_here; k_dflt (refine UnrEnd.intro (by assumption) (by assumption) _ (fun p hp => hp) (my_off (by assumption)) ?_)))
local macro_rules | `(tactic| walk_at "exec While UnaryOp cons nil") => `(tactic| (k_here; k_dflt (refine whl_start 4 ?_)))
local macro_rules | `(tactic| walk_at "subscriptTail Name Name ref int") => `(tactic| (k_here; (with_reducible show wpAny _ _ (subscriptTail _ _ (Value.ref _) (Value.int _ _)) _ _ _); k_dflt (refine' item_any ?N ?m ?x ?a ?z ?s ?_; (case N => k_asm); (case m => k_mem); (case x => assumption); (case a => first | assumption | omega); (case z => (first | assumption | omega | (simp only [List.length_cons, List.length_nil, List.length_append, List.length_take, List.length_drop]; omega))); (case s => with_unfolding_all rfl))))
local macro_rules | `(tactic| walk_at "subscriptTail Name BinOp ref int") => `(tactic| (k_here; (with_reducible show wpAny _ _ (subscriptTail _ _ (Value.ref _) (Value.int _ _)) _ _ _); k_dflt (refine' item_any ?N ?m ?x ?a ?z ?s ?_; (case N => k_asm); (case m => k_mem); (case x => assumption); (case a => first | assumption | omega); (case z => (first | assumption | omega | (simp only [List.length_cons, List.length_nil, List.length_append, List.length_take, List.length_drop]; omega))); (case s => with_unfolding_all rfl))))
local macro_rules | `(tactic| k_all) => `(tactic| assumption)
local macro_rules | `(tactic| k_ne) => `(tactic| (refine neN ?_; (try dsimp only); first | (refine Off.l (by assumption) ?_; k_memK; done) | (refine Off.r (by assumption) ?_; k_memK; done) | fail))
local macro_rules | `(tactic| walk_at "call ref") => `(tactic| (k_here; (with_reducible show wpAny _ _ (call (Value.ref 1319) [Value.ref _, Value.ref _] []) _ _ _); k_dflt (refine' push1U ?B ?F ?X ?T ?N ?m1 ?m2 ?U ?c ?z ?_; (case B => assumption); (case F => k_asm); (case X => assumption); (case T => assumption); (case N => k_asm); (case m1 => k_mem); (case m2 => k_mem); (case c => assumption); (case U => k_updF); (case z => (first | assumption | omega | (simp only [List.length_cons, List.length_nil, List.length_append, List.length_take, List.length_drop]; omega)))); intro h' tk' F' N'; (try dsimp only at N')))
local macro_rules | `(tactic| walk_at "binaryOp Add ref ref") => `(tactic| (k_here; (with_reducible show wpAny _ _ (binaryOp _ (Value.ref _) (Value.ref _)) _ _ _); k_dflt (refine' add_any ?F ?N ?a ?b ?z ?_; (case F => k_asm); (case N => k_asm); (case a => k_mem); (case b => k_mem); (case z => (first | assumption | omega | (simp only [List.length_cons, List.length_nil, List.length_append, List.length_take, List.length_drop]; omega)))); intro D' h' F' N' l1; (try k_lt l1); (try k_sweep)))
section
variable {w : World} {E : Value → Shared → Prop} {Q : Flow → Shared → Prop} {s : Shared} {h₀ : Heap} {L fa : Addr} {cd : Value} {u : Str → Option Value}
  {p : Program} {loose : List Str} {mean : ExcName → Option Value} {mg mb : Str → Option Value} {tl : List (Addr × Obj)} {RW KD WT P D CX CU RS T1 T2 : Addr} {ls : List Lev} {cur wvs : List Value} {nR nK nW nX nC nS : Nat} {d : PD} {oCE : Obj} {ta td0 tp tb td tr a1 b1 b2 : Tok} {r dd bg : Int} {kd : Value} {bx nx : Option Value}
theorem deedPush1 (B : Below callerA h₀ [] h₀) (X : (K w.params).In h₀) (T : Top p loose mean mg mb h₀) (F : Fr h₀ L s.heap (fun y => if y = Str.ofString "first" then some (Value.ref T1) else if y = Str.ofString "second" then some (Value.ref T2) else if y = Str.ofString "kind" then some kd else if y = Str.ofString "begin" then some (Value.int bg tb) else if y = Str.ofString "deed" then some (Value.int dd td) else if y = Str.ofString "rest" then some (Value.int r tr) else if y = Str.ofString "rest" then bx else if y = Str.ofString "number" then nx else if y = Str.ofString "row" then some (Value.ref RW) else if y = Str.ofString "waiting" then some (Value.ref WT) else if y = Str.ofString "kinds" then some (Value.ref KD) else u y))
    (N : News h₀ L s.heap ((T2, ({ cls := .type "tuple", data := .seq #[.int (r.fmod 50 + 1) b1, .int (r + 1) b2] 0 } : Obj)) :: (T1, ({ cls := .type "tuple", data := .seq #[.int (r.fmod 50) a1, .int r tr] 0 } : Obj)) :: (RW, listOf (rowOf ls cur).toArray nR) :: (KD, listOf #[.str (Str.ofString "a") ta, .str (Str.ofString "d") td0, .str (Str.ofString "p") tp] nK) :: (WT, listOf wvs.toArray nW) :: (P, instObj 1367 D) :: (D, dictOf (d.es w) 13) :: (CX, listOf (ctxOf ls).toArray nX) :: (CU, listOf cur.toArray nC) :: (RS, listOf wvs.toArray nS) :: (L + 1, oCE) :: tl)) (l1 : (@LT.lt Nat _ (RW) T1 ∧ @LT.lt Nat _ (KD) T1 ∧ @LT.lt Nat _ (WT) T1 ∧ @LT.lt Nat _ (P) T1 ∧ @LT.lt Nat _ (D) T1 ∧ @LT.lt Nat _ (CX) T1 ∧ @LT.lt Nat _ (CU) T1 ∧ @LT.lt Nat _ (RS) T1 ∧ @LT.lt Nat _ (L + 1) T1 ∧ AllLt T1 tl)) (l2 : @LT.lt Nat _ T1 T2 ∧ @LT.lt Nat _ (RW) T2 ∧ @LT.lt Nat _ (KD) T2 ∧ @LT.lt Nat _ (WT) T2 ∧ @LT.lt Nat _ (P) T2 ∧ @LT.lt Nat _ (D) T2 ∧ @LT.lt Nat _ (CX) T2 ∧ @LT.lt Nat _ (CU) T2 ∧ @LT.lt Nat _ (RS) T2 ∧ @LT.lt Nat _ (L + 1) T2 ∧ AllLt T2 tl)
    (hce : oCE.data = .cell (some (.ref P))) (hlen : (rowOf ls cur).length ≤ 100) (hwl : wvs.length ≤ 100) (hcl : cur.length ≤ 100) (hr : 0 ≤ r) (hr2 : r < 10000) (h0 : 0 ≤ dd) (h1 : dd < 2) (hcu : d.curstack = .ref CU)
    (oCU : Off CU [RW, KD, WT, P, D, CX, RS, L + 1]) (tCU : ∀ p ∈ tl, p.1 ≠ CU)
    (h : ∀ h' tk m' RW', Fr h₀ L h' m' → m' (Str.ofString "row") = some (.ref RW') → m' (Str.ofString "waiting") = some (.ref WT) → m' (Str.ofString "kinds") = some (.ref KD) → News h₀ L h' ((RW', listOf (rowOf ls cur ++ [Value.ref T1]).toArray 0) :: (T2, ({ cls := .type "tuple", data := .seq #[.int (r.fmod 50 + 1) b1, .int (r + 1) b2] 0 } : Obj)) :: (T1, ({ cls := .type "tuple", data := .seq #[.int (r.fmod 50) a1, .int r tr] 0 } : Obj)) :: (KD, listOf #[.str (Str.ofString "a") ta, .str (Str.ofString "d") td0, .str (Str.ofString "p") tp] nK) :: (WT, listOf wvs.toArray nW) :: (P, instObj 1367 D) :: (D, dictOf (d.es w) 13) :: (CX, listOf (ctxOf ls).toArray nX) :: (CU, listOf (cur ++ [Value.ref T1]).toArray (nC + 1)) :: (RS, listOf wvs.toArray nS) :: (L + 1, oCE) :: tl) → (@Ne Nat KD RW' ∧ @Ne Nat WT RW' ∧ @Ne Nat CX RW' ∧ @Ne Nat CU RW' ∧ @Ne Nat RS RW' ∧ @Ne Nat RW RW') → (∀ p ∈ tl, p.1 ≠ RW') → Q .next { s with heap := h', toks := tk }) :
    wpAny (model PySem.Challenge.rw_ae5031_04.row.prog w) (callerA.deeper (envOfC (Str.ofString "law") lawScope L fa cd)) (exec chain (envOfC (Str.ofString "law") lawScope L fa cd)) (fun f s' => match f with | .next => wpAny (model PySem.Challenge.rw_ae5031_04.row.prog w) (callerA.deeper (envOfC (Str.ofString "law") lawScope L fa cd)) (execs [] (envOfC (Str.ofString "law") lawScope L fa cd)) Q E s' | f => Q f s') E s := by
  revert X
  k_fill
  intro X
  unfold chain
  k_steps
  refine' h _ _ _ _ ?F ?r ?w ?k ?N ?f0 ?t0
  (case F => assumption)
  (case r => first | rfl | decide)
  (case w => first | rfl | decide)
  (case k => first | rfl | decide)
  (case N => (refine news_sub (by assumption) ?_; (repeat' (first | exact fun p hp => hp | (refine sub_cons (by k_memK) ?_) | (refine sub_tail ?_)))))
  (case f0 => (refine ⟨?_, ?_, ?_, ?_, ?_, ?_⟩ <;> k_ne))
  (case t0 => k_all)
end
end Mine
end
section
theorem Mine.freshDpush2 : True := by
  run_tac (do PyProof.Rows.walkLines.set (0, {}); PyProof.Rows.walkHit.set {}; PyProof.Rows.walkTop.set false; PyProof.Rows.walkStart.set 0; PyProof.Rows.walkLate.set false)
  trivial
open PySem PySem.W PySem.Calls PyProof.Rows
set_option Elab.async false
set_option maxRecDepth 100000
set_option maxHeartbeats 400000
set_option linter.unusedVariables false
set_option linter.unusedSimpArgs false
namespace Mine
local macro_rules | `(tactic| walk_at "last subscriptTail") => `(tactic| (k_here; (with_reducible show wpAny _ _ (subscriptTail _ (PySem.Expr.Slice _ _ none _) (Value.ref _) (Value.ref _)) _ _ _); k_dflt (refine' slice_any ?F ?N ?l ?p ?q ?e ?_ ?s ?t ?z; (case F => k_asm); (case N => k_asm); (case l => k_mem); (case p => kmk_part); (case q => kmk_part); (case e => (first | exact pick_from (by omega) | exact pick_upto (by omega) | exact pick_neg (by first | omega | (refine Int.neg_neg_of_pos ?_; omega)))); (case s => with_unfolding_all rfl); (case t => kmk_pure); (case z => (first | assumption | omega | (simp only [List.length_cons, List.length_nil, List.length_append, List.length_take, List.length_drop]; omega)))); intro D' h' F' N' l1; (try k_lt l1); (try k_sweep)))
local macro_rules | `(tactic| walk_at "subscriptTail Name Slice ref ref") => `(tactic| (k_here; (with_reducible show wpAny _ _ (subscriptTail _ (PySem.Expr.Slice _ _ none _) (Value.ref _) (Value.ref _)) _ _ _); k_dflt (refine' slice_any ?F ?N ?l ?p ?q ?e ?_ ?s ?t ?z; (case F => k_asm); (case N => k_asm); (case l => k_mem); (case p => kmk_part); (case q => kmk_part); (case e => (first | exact pick_from (by omega) | exact pick_upto (by omega) | exact pick_neg (by first | omega | (refine Int.neg_neg_of_pos ?_; omega)))); (case s => with_unfolding_all rfl); (case t => kmk_pure); (case z => (first | assumption | omega | (simp only [List.length_cons, List.length_nil, List.length_append, List.length_take, List.length_drop]; omega)))); intro D' h' F' N' l1; (try k_lt l1); (try k_sweep)))
local macro_rules | `(tactic| walk_at "setItem ref") => `(tactic| (k_here; k_dflt (refine' setSlice_neg ?F ?N ?b ?ne ?U ?x ?z ?_; (case F => k_asm); (case N => k_asm); (case b => k_mem); (case ne => k_ne); (case U => k_upd); (case x => (first | omega | (refine Int.neg_neg_of_pos ?_; omega))); (case z => (first | assumption | omega | (simp only [List.length_cons, List.length_nil, List.length_append, List.length_take, List.length_drop]; omega)))); intro h' F' N'; (try k_sweep)))
local macro_rules | `(tactic| walk_at "call builtin:len") => `(tactic| (k_here; (with_reducible show wpAny _ _ (call (Value.builtin "len") [Value.ref _]) _ _ _); k_dflt (refine' len_any ?N ?m ?z ?_; (case N => k_asm); (case m => k_mem); (case z => (first | assumption | omega | (simp only [List.length_cons, List.length_nil, List.length_append, List.length_take, List.length_drop]; omega))))))
local macro_rules | `(tactic| walk_at "truthy ref") => `(tactic| (k_here; k_dflt (refine' truthy_any ?N ?m ?z ?_; (case N => k_asm); (case m => k_mem); (case z => (first | assumption | omega | (simp only [List.length_cons, List.length_nil, List.length_append, List.length_take, List.length_drop]; omega)))); (try simp only [List.isEmpty_cons, List.isEmpty_nil, Bool.not_false, Bool.not_true])))
local macro_rules | `(tactic| walk_at "call builtin:list.pop") => `(tactic| (k_here; k_dflt (first | (refine' pop_last ?F ?N ?U ?z ?_; (case F => k_asm); (case N => k_asm); (case U => k_upd); (case z => (first | assumption | omega | (simp only [List.length_cons, List.length_nil, List.length_append, List.length_take, List.length_drop]; omega)))) | (refine' pop_first ?F ?N ?U ?z ?_; (case F => k_asm); (case N => k_asm); (case U => k_upd); (case z => (first | assumption | omega | (simp only [List.length_cons, List.length_nil, List.length_append, List.length_take, List.length_drop]; omega))))); intro h' F' N'; (try k_sweep)))
local macro_rules | `(tactic| walk_at "pyReprObj str") => `(tactic| (refine pyReprObj_str (hx := ?hx) ?_; (case hx => (rw [PySem.sizeLine_eq]; omega))))
local macro_rules | `(tactic| walk_at "compareOp NotEq str str") => `(tactic| first | refine ne_strs_true (by assumption) ?_ | refine ne_strs_false ?_)
local macro_rules | `(tactic| walk_at "SrcLP") => `(tactic| (k_here; k_dflt (refine LCp.SrcLP.ledger (by rfl) (by k_asm) (by k_asm) (by k_mem) (by (simp only [List.size_toArray, PySem.sizeLine_eq]; omega)) ?_; intro g'; (rename Secs _ _ _ => hsec'); refine rest_snd (by rfl) (by rfl) (by decide) (.inr ⟨_, by k_mem, rfl, _, rfl⟩) _ _ 0 [] (hsec'.mono (fun p hp => (by simp only [List.mem_cons]; first | exact hp | exact .inr hp | exact .inr (.inr hp) | exact .inr (.inr (.inr hp)) | exact .inr (.inr (.inr (.inr hp))) | exact .inr (.inr (.inr (.inr (.inr hp))))))) (fun j v hj => by simpa using hj) ?_); intro D' h' tk' F' N' off'; (try simp only [LCg.Off1] at off')))
local macro_rules | `(tactic| walk_at "call builtin:len") => `(tactic| (k_here; (with_reducible show wpAny _ _ (call (Value.builtin "len") [Value.ref _]) _ _ _); k_dflt (refine' len_ba_K ?N ?m ?_; (case N => k_asm); (case m => k_mem))))
local macro_rules | `(tactic| walk_at "compareOp In int bytes") => `(tactic| (k_here; refine in_bytes_true (by decide +kernel) (by decide +kernel) (by decide +kernel) ?_))
local macro_rules | `(tactic| walk_at "truthy bytes") => `(tactic| (k_here; refine truthy_b0 ?_))
local macro_rules | `(tactic| walk_at "UnrEnd") => `(tactic| (k_here; k_dflt (refine UnrEnd.intro (by assumption) (by assumption) _ (fun p hp => hp) (my_off (by assumption)) ?_)))
local macro_rules | `(tactic| walk_at "exec While UnaryOp cons nil") => `(tactic| (k_here; k_dflt (refine whl_start 4 ?_)))
local macro_rules | `(tactic| walk_at "subscriptTail Name Name ref int") => `(tactic| (k_here; (with_reducible show wpAny _ _ (subscriptTail _ _ (Value.ref _) (Value.int _ _)) _ _ _); k_dflt (refine' item_any ?N ?m ?x ?a ?z ?s ?_; (case N => k_asm); (case m => k_mem); (case x => assumption); (case a => first | assumption | omega); (case z => (first | assumption | omega | (simp only [List.length_cons, List.length_nil, List.length_append, List.length_take, List.length_drop]; omega))); (case s => with_unfolding_all rfl))))
local macro_rules | `(tactic| walk_at "subscriptTail Name BinOp ref int") => `(tactic| (k_here; (with_reducible show wpAny _ _ (subscriptTail _ _ (Value.ref _) (Value.int _ _)) _ _ _); k_dflt (refine' item_any ?N ?m ?x ?a ?z ?s ?_; (case N => k_asm); (case m => k_mem); (case x => assumption); (case a => first | assumption | omega); (case z => (first | assumption | omega | (simp only [List.length_cons, List.length_nil, List.length_append, List.length_take, List.length_drop]; omega))); (case s => with_unfolding_all rfl))))
local macro_rules | `(tactic| k_all) => `(tactic| assumption)
local macro_rules | `(tactic| k_ne) => `(tactic| (refine neN ?_; (try dsimp only); first | (refine Off.l (by assumption) ?_; k_memK; done) | (refine Off.r (by assumption) ?_; k_memK; done) | fail))
local macro_rules | `(tactic| walk_at "call ref") => `(tactic| (k_here; (with_reducible show wpAny _ _ (call (Value.ref 1319) [Value.ref _, Value.ref _, Value.ref _] []) _ _ _); k_dflt (refine' push2U ?B ?F ?X ?T ?N ?m1 ?m2 ?U ?c ?z ?_; (case B => assumption); (case F => k_asm); (case X => assumption); (case T => assumption); (case N => k_asm); (case m1 => k_mem); (case m2 => k_mem); (case c => assumption); (case U => k_updF); (case z => (first | assumption | omega | (simp only [List.length_cons, List.length_nil, List.length_append, List.length_take, List.length_drop]; omega)))); intro h' tk' F' N'; (try dsimp only at N')))
local macro_rules | `(tactic| walk_at "binaryOp Add ref ref") => `(tactic| (k_here; (with_reducible show wpAny _ _ (binaryOp _ (Value.ref _) (Value.ref _)) _ _ _); k_dflt (refine' add_any ?F ?N ?a ?b ?z ?_; (case F => k_asm); (case N => k_asm); (case a => k_mem); (case b => k_mem); (case z => (first | assumption | omega | (simp only [List.length_cons, List.length_nil, List.length_append, List.length_take, List.length_drop]; omega)))); intro D' h' F' N' l1; (try k_lt l1); (try k_sweep)))
section
variable {w : World} {E : Value → Shared → Prop} {Q : Flow → Shared → Prop} {s : Shared} {h₀ : Heap} {L fa : Addr} {cd : Value} {u : Str → Option Value}
  {p : Program} {loose : List Str} {mean : ExcName → Option Value} {mg mb : Str → Option Value} {tl : List (Addr × Obj)} {RW KD WT P D CX CU RS T1 T2 : Addr} {ls : List Lev} {cur wvs : List Value} {nR nK nW nX nC nS : Nat} {d : PD} {oCE : Obj} {ta td0 tp tb td tr a1 b1 b2 : Tok} {r dd bg : Int} {kd : Value} {bx nx : Option Value}
theorem deedPush2 (B : Below callerA h₀ [] h₀) (X : (K w.params).In h₀) (T : Top p loose mean mg mb h₀) (F : Fr h₀ L s.heap (fun y => if y = Str.ofString "first" then some (Value.ref T1) else if y = Str.ofString "second" then some (Value.ref T2) else if y = Str.ofString "kind" then some kd else if y = Str.ofString "begin" then some (Value.int bg tb) else if y = Str.ofString "deed" then some (Value.int 2 td) else if y = Str.ofString "rest" then some (Value.int r tr) else if y = Str.ofString "rest" then bx else if y = Str.ofString "number" then nx else if y = Str.ofString "row" then some (Value.ref RW) else if y = Str.ofString "waiting" then some (Value.ref WT) else if y = Str.ofString "kinds" then some (Value.ref KD) else u y))
    (N : News h₀ L s.heap ((T2, ({ cls := .type "tuple", data := .seq #[.int (r.fmod 50 + 1) b1, .int (r + 1) b2] 0 } : Obj)) :: (T1, ({ cls := .type "tuple", data := .seq #[.int (r.fmod 50) a1, .int r tr] 0 } : Obj)) :: (RW, listOf (rowOf ls cur).toArray nR) :: (KD, listOf #[.str (Str.ofString "a") ta, .str (Str.ofString "d") td0, .str (Str.ofString "p") tp] nK) :: (WT, listOf wvs.toArray nW) :: (P, instObj 1367 D) :: (D, dictOf (d.es w) 13) :: (CX, listOf (ctxOf ls).toArray nX) :: (CU, listOf cur.toArray nC) :: (RS, listOf wvs.toArray nS) :: (L + 1, oCE) :: tl)) (l1 : (@LT.lt Nat _ (RW) T1 ∧ @LT.lt Nat _ (KD) T1 ∧ @LT.lt Nat _ (WT) T1 ∧ @LT.lt Nat _ (P) T1 ∧ @LT.lt Nat _ (D) T1 ∧ @LT.lt Nat _ (CX) T1 ∧ @LT.lt Nat _ (CU) T1 ∧ @LT.lt Nat _ (RS) T1 ∧ @LT.lt Nat _ (L + 1) T1 ∧ AllLt T1 tl)) (l2 : @LT.lt Nat _ T1 T2 ∧ @LT.lt Nat _ (RW) T2 ∧ @LT.lt Nat _ (KD) T2 ∧ @LT.lt Nat _ (WT) T2 ∧ @LT.lt Nat _ (P) T2 ∧ @LT.lt Nat _ (D) T2 ∧ @LT.lt Nat _ (CX) T2 ∧ @LT.lt Nat _ (CU) T2 ∧ @LT.lt Nat _ (RS) T2 ∧ @LT.lt Nat _ (L + 1) T2 ∧ AllLt T2 tl)
    (hce : oCE.data = .cell (some (.ref P))) (hlen : (rowOf ls cur).length ≤ 100) (hwl : wvs.length ≤ 100) (hcl : cur.length ≤ 100) (hr : 0 ≤ r) (hr2 : r < 10000) (hcu : d.curstack = .ref CU)
    (oCU : Off CU [RW, KD, WT, P, D, CX, RS, L + 1]) (tCU : ∀ p ∈ tl, p.1 ≠ CU)
    (h : ∀ h' tk m' RW', Fr h₀ L h' m' → m' (Str.ofString "row") = some (.ref RW') → m' (Str.ofString "waiting") = some (.ref WT) → m' (Str.ofString "kinds") = some (.ref KD) → News h₀ L h' ((RW', listOf (rowOf ls cur ++ [Value.ref T1, Value.ref T2]).toArray 0) :: (T2, ({ cls := .type "tuple", data := .seq #[.int (r.fmod 50 + 1) b1, .int (r + 1) b2] 0 } : Obj)) :: (T1, ({ cls := .type "tuple", data := .seq #[.int (r.fmod 50) a1, .int r tr] 0 } : Obj)) :: (KD, listOf #[.str (Str.ofString "a") ta, .str (Str.ofString "d") td0, .str (Str.ofString "p") tp] nK) :: (WT, listOf wvs.toArray nW) :: (P, instObj 1367 D) :: (D, dictOf (d.es w) 13) :: (CX, listOf (ctxOf ls).toArray nX) :: (CU, listOf (cur ++ [Value.ref T1, Value.ref T2]).toArray (nC + 1)) :: (RS, listOf wvs.toArray nS) :: (L + 1, oCE) :: tl) → (@Ne Nat KD RW' ∧ @Ne Nat WT RW' ∧ @Ne Nat CX RW' ∧ @Ne Nat CU RW' ∧ @Ne Nat RS RW' ∧ @Ne Nat RW RW') → (∀ p ∈ tl, p.1 ≠ RW') → Q .next { s with heap := h', toks := tk }) :
    wpAny (model PySem.Challenge.rw_ae5031_04.row.prog w) (callerA.deeper (envOfC (Str.ofString "law") lawScope L fa cd)) (exec chain (envOfC (Str.ofString "law") lawScope L fa cd)) (fun f s' => match f with | .next => wpAny (model PySem.Challenge.rw_ae5031_04.row.prog w) (callerA.deeper (envOfC (Str.ofString "law") lawScope L fa cd)) (execs [] (envOfC (Str.ofString "law") lawScope L fa cd)) Q E s' | f => Q f s') E s := by
  revert X
  k_fill
  intro X
  unfold chain
  k_steps
  refine' h _ _ _ _ ?F ?r ?w ?k ?N ?f0 ?t0
  (case F => assumption)
  (case r => first | rfl | decide)
  (case w => first | rfl | decide)
  (case k => first | rfl | decide)
  (case N => (refine news_sub (by assumption) ?_; (repeat' (first | exact fun p hp => hp | (refine sub_cons (by k_memK) ?_) | (refine sub_tail ?_)))))
  (case f0 => (refine ⟨?_, ?_, ?_, ?_, ?_, ?_⟩ <;> k_ne))
  (case t0 => k_all)
end
end Mine
end
section
theorem Mine.freshDresults2 : True := by
  run_tac (do PyProof.Rows.walkLines.set (0, {}); PyProof.Rows.walkHit.set {}; PyProof.Rows.walkTop.set false; PyProof.Rows.walkStart.set 0; PyProof.Rows.walkLate.set false)
  trivial
open PySem PySem.W PySem.Calls PyProof.Rows
set_option Elab.async false
set_option maxRecDepth 100000
set_option maxHeartbeats 400000
set_option linter.unusedVariables false
set_option linter.unusedSimpArgs false
namespace Mine
local macro_rules | `(tactic| walk_at "last subscriptTail") => `(tactic| (k_here; (with_reducible show wpAny _ _ (subscriptTail _ (PySem.Expr.Slice _ _ none _) (Value.ref _) (Value.ref _)) _ _ _); k_dflt (refine' slice_any ?F ?N ?l ?p ?q ?e ?_ ?s ?t ?z; (case F => k_asm); (case N => k_asm); (case l => k_mem); (case p => kmk_part); (case q => kmk_part); (case e => (first | exact pick_from (by omega) | exact pick_upto (by omega) | exact pick_neg (by first | omega | (refine Int.neg_neg_of_pos ?_; omega)))); (case s => with_unfolding_all rfl); (case t => kmk_pure); (case z => (first | assumption | omega | (simp only [List.length_cons, List.length_nil, List.length_append, List.length_take, List.length_drop]; omega)))); intro D' h' F' N' l1; (try k_lt l1); (try k_sweep)))
local macro_rules | `(tactic| walk_at "subscriptTail Name Slice ref ref") => `(tactic| (k_here; (with_reducible show wpAny _ _ (subscriptTail _ (PySem.Expr.Slice _ _ none _) (Value.ref _) (Value.ref _)) _ _ _); k_dflt (refine' slice_any ?F ?N ?l ?p ?q ?e ?_ ?s ?t ?z; (case F => k_asm); (case N => k_asm); (case l => k_mem); (case p => kmk_part); (case q => kmk_part); (case e => (first | exact pick_from (by omega) | exact pick_upto (by omega) | exact pick_neg (by first | omega | (refine Int.neg_neg_of_pos ?_; omega)))); (case s => with_unfolding_all rfl); (case t => kmk_pure); (case z => (first | assumption | omega | (simp only [List.length_cons, List.length_nil, List.length_append, List.length_take, List.length_drop]; omega)))); intro D' h' F' N' l1; (try k_lt l1); (try k_sweep)))
local macro_rules | `(tactic| walk_at "setItem ref") => `(tactic| (k_here; k_dflt (refine' setSlice_neg ?F ?N ?b ?ne ?U ?x ?z ?_; (case F => k_asm); (case N => k_asm); (case b => k_mem); (case ne => k_ne); (case U => k_upd); (case x => (first | omega | (refine Int.neg_neg_of_pos ?_; omega))); (case z => (first | assumption | omega | (simp only [List.length_cons, List.length_nil, List.length_append, List.length_take, List.length_drop]; omega)))); intro h' F' N'; (try k_sweep)))
local macro_rules | `(tactic| walk_at "call builtin:len") => `(tactic| (k_here; (with_reducible show wpAny _ _ (call (Value.builtin "len") [Value.ref _]) _ _ _); k_dflt (refine' len_any ?N ?m ?z ?_; (case N => k_asm); (case m => k_mem); (case z => (first | assumption | omega | (simp only [List.length_cons, List.length_nil, List.length_append, List.length_take, List.length_drop]; omega))))))
local macro_rules | `(tactic| walk_at "truthy ref") => `(tactic| (k_here; k_dflt (refine' truthy_any ?N ?m ?z ?_; (case N => k_asm); (case m => k_mem); (case z => (first | assumption | omega | (simp only [List.length_cons, List.length_nil, List.length_append, List.length_take, List.length_drop]; omega)))); (try simp only [List.isEmpty_cons, List.isEmpty_nil, Bool.not_false, Bool.not_true])))
local macro_rules | `(tactic| walk_at "call builtin:list.pop") => `(tactic| (k_here; k_dflt (first | (refine' pop_last ?F ?N ?U ?z ?_; (case F => k_asm); (case N => k_asm); (case U => k_upd); (case z => (first | assumption | omega | (simp only [List.length_cons, List.length_nil, List.length_append, List.length_take, List.length_drop]; omega)))) | (refine' pop_first ?F ?N ?U ?z ?_; (case F => k_asm); (case N => k_asm); (case U => k_upd); (case z => (first | assumption | omega | (simp only [List.length_cons, List.length_nil, List.length_append, List.length_take, List.length_drop]; omega))))); intro h' F' N'; (try k_sweep)))
local macro_rules | `(tactic| walk_at "pyReprObj str") => `(tactic| (refine pyReprObj_str (hx := ?hx) ?_; (case hx => (rw [PySem.sizeLine_eq]; omega))))
local macro_rules | `(tactic| walk_at "compareOp NotEq str str") => `(tactic| first | refine ne_strs_true (by assumption) ?_ | refine ne_strs_false ?_)
local macro_rules | `(tactic| walk_at "SrcLP") => `(tactic| (k_here; k_dflt (refine LCp.SrcLP.ledger (by rfl) (by k_asm) (by k_asm) (by k_mem) (by (simp only [List.size_toArray, PySem.sizeLine_eq]; omega)) ?_; intro g'; (rename Secs _ _ _ => hsec'); refine rest_snd (by rfl) (by rfl) (by decide) (.inr ⟨_, by k_mem, rfl, _, rfl⟩) _ _ 0 [] (hsec'.mono (fun p hp => (by simp only [List.mem_cons]; first | exact hp | exact .inr hp | exact .inr (.inr hp) | exact .inr (.inr (.inr hp)) | exact .inr (.inr (.inr (.inr hp))) | exact .inr (.inr (.inr (.inr (.inr hp))))))) (fun j v hj => by simpa using hj) ?_); intro D' h' tk' F' N' off'; (try simp only [LCg.Off1] at off')))
local macro_rules | `(tactic| walk_at "call builtin:len") => `(tactic| (k_here; (with_reducible show wpAny _ _ (call (Value.builtin "len") [Value.ref _]) _ _ _); k_dflt (refine' len_ba_K ?N ?m ?_; (case N => k_asm); (case m => k_mem))))
local macro_rules | `(tactic| walk_at "compareOp In int bytes") => `(tactic| (k_here; refine in_bytes_true (by decide +kernel) (by decide +kernel) (by decide +kernel) ?_))
local macro_rules | `(tactic| walk_at "truthy bytes") => `(tactic| (k_here; refine truthy_b0 ?_))
local macro_rules | `(tactic| walk_at "UnrEnd") => `(tactic| (k_here; k_dflt (refine UnrEnd.intro (by assumption) (by assumption) _ (fun p hp => hp) (my_off (by assumption)) ?_)))
local macro_rules | `(tactic| walk_at "exec While UnaryOp cons nil") => `(tactic| (k_here; k_dflt (refine whl_start 4 ?_)))
local macro_rules | `(tactic| walk_at "subscriptTail Name Name ref int") => `(tactic| (k_here; (with_reducible show wpAny _ _ (subscriptTail _ _ (Value.ref _) (Value.int _ _)) _ _ _); k_dflt (refine' item_any ?N ?m ?x ?a ?z ?s ?_; (case N => k_asm); (case m => k_mem); (case x => assumption); (case a => first | assumption | omega); (case z => (first | assumption | omega | (simp only [List.length_cons, List.length_nil, List.length_append, List.length_take, List.length_drop]; omega))); (case s => with_unfolding_all rfl))))
local macro_rules | `(tactic| walk_at "subscriptTail Name BinOp ref int") => `(tactic| (k_here; (with_reducible show wpAny _ _ (subscriptTail _ _ (Value.ref _) (Value.int _ _)) _ _ _); k_dflt (refine' item_any ?N ?m ?x ?a ?z ?s ?_; (case N => k_asm); (case m => k_mem); (case x => assumption); (case a => first | assumption | omega); (case z => (first | assumption | omega | (simp only [List.length_cons, List.length_nil, List.length_append, List.length_take, List.length_drop]; omega))); (case s => with_unfolding_all rfl))))
local macro_rules | `(tactic| k_all) => `(tactic| assumption)
local macro_rules | `(tactic| k_ne) => `(tactic| (refine neN ?_; (try dsimp only); first | (refine Off.l (by assumption) ?_; k_memK; done) | (refine Off.r (by assumption) ?_; k_memK; done) | fail))
local macro_rules | `(tactic| walk_at "call ref") => `(tactic| (k_here; (with_reducible show wpAny _ _ (call (Value.ref 1340) [Value.ref _, Value.ref _, Value.ref _] []) _ _ _); k_dflt (refine' results2U ?B ?F ?X ?T ?N ?m1 ?m2 ?U ?c ?z ?_; (case B => assumption); (case F => k_asm); (case X => assumption); (case T => assumption); (case N => k_asm); (case m1 => k_mem); (case m2 => k_mem); (case c => assumption); (case U => k_updF); (case z => (first | assumption | omega | (simp only [List.length_cons, List.length_nil, List.length_append, List.length_take, List.length_drop]; omega)))); intro h' tk' F' N'; (try dsimp only at N')))
local macro_rules | `(tactic| walk_at "binaryOp Add ref ref") => `(tactic| (k_here; (with_reducible show wpAny _ _ (binaryOp _ (Value.ref _) (Value.ref _)) _ _ _); k_dflt (refine' add_any ?F ?N ?a ?b ?z ?_; (case F => k_asm); (case N => k_asm); (case a => k_mem); (case b => k_mem); (case z => (first | assumption | omega | (simp only [List.length_cons, List.length_nil, List.length_append, List.length_take, List.length_drop]; omega)))); intro D' h' F' N' l1; (try k_lt l1); (try k_sweep)))
section
variable {w : World} {E : Value → Shared → Prop} {Q : Flow → Shared → Prop} {s : Shared} {h₀ : Heap} {L fa : Addr} {cd : Value} {u : Str → Option Value}
  {p : Program} {loose : List Str} {mean : ExcName → Option Value} {mg mb : Str → Option Value} {tl : List (Addr × Obj)} {RW KD WT P D CX CU RS T1 T2 : Addr} {ls : List Lev} {cur wvs : List Value} {nR nK nW nX nC nS : Nat} {d : PD} {oCE : Obj} {ta td0 tp tb td tr a1 b1 b2 : Tok} {r dd bg : Int} {kd : Value} {bx nx : Option Value}
theorem deedResults (B : Below callerA h₀ [] h₀) (X : (K w.params).In h₀) (T : Top p loose mean mg mb h₀) (F : Fr h₀ L s.heap (fun y => if y = Str.ofString "first" then some (Value.ref T1) else if y = Str.ofString "second" then some (Value.ref T2) else if y = Str.ofString "kind" then some kd else if y = Str.ofString "begin" then some (Value.int bg tb) else if y = Str.ofString "deed" then some (Value.int 8 td) else if y = Str.ofString "rest" then some (Value.int r tr) else if y = Str.ofString "rest" then bx else if y = Str.ofString "number" then nx else if y = Str.ofString "row" then some (Value.ref RW) else if y = Str.ofString "waiting" then some (Value.ref WT) else if y = Str.ofString "kinds" then some (Value.ref KD) else u y))
    (N : News h₀ L s.heap ((T2, ({ cls := .type "tuple", data := .seq #[.int (r.fmod 50 + 1) b1, .int (r + 1) b2] 0 } : Obj)) :: (T1, ({ cls := .type "tuple", data := .seq #[.int (r.fmod 50) a1, .int r tr] 0 } : Obj)) :: (RW, listOf (rowOf ls cur).toArray nR) :: (KD, listOf #[.str (Str.ofString "a") ta, .str (Str.ofString "d") td0, .str (Str.ofString "p") tp] nK) :: (WT, listOf wvs.toArray nW) :: (P, instObj 1367 D) :: (D, dictOf (d.es w) 13) :: (CX, listOf (ctxOf ls).toArray nX) :: (CU, listOf cur.toArray nC) :: (RS, listOf wvs.toArray nS) :: (L + 1, oCE) :: tl)) (l1 : (@LT.lt Nat _ (RW) T1 ∧ @LT.lt Nat _ (KD) T1 ∧ @LT.lt Nat _ (WT) T1 ∧ @LT.lt Nat _ (P) T1 ∧ @LT.lt Nat _ (D) T1 ∧ @LT.lt Nat _ (CX) T1 ∧ @LT.lt Nat _ (CU) T1 ∧ @LT.lt Nat _ (RS) T1 ∧ @LT.lt Nat _ (L + 1) T1 ∧ AllLt T1 tl)) (l2 : @LT.lt Nat _ T1 T2 ∧ @LT.lt Nat _ (RW) T2 ∧ @LT.lt Nat _ (KD) T2 ∧ @LT.lt Nat _ (WT) T2 ∧ @LT.lt Nat _ (P) T2 ∧ @LT.lt Nat _ (D) T2 ∧ @LT.lt Nat _ (CX) T2 ∧ @LT.lt Nat _ (CU) T2 ∧ @LT.lt Nat _ (RS) T2 ∧ @LT.lt Nat _ (L + 1) T2 ∧ AllLt T2 tl)
    (hce : oCE.data = .cell (some (.ref P))) (hlen : (rowOf ls cur).length ≤ 100) (hwl : wvs.length ≤ 100) (hcl : cur.length ≤ 100) (hr : 0 ≤ r) (hr2 : r < 10000) (hrs : d.results = .ref RS)
    (oRS : Off RS [RW, KD, WT, P, D, CX, CU, L + 1]) (tRS : ∀ p ∈ tl, p.1 ≠ RS)
    (h : ∀ h' tk m' WT', Fr h₀ L h' m' → m' (Str.ofString "row") = some (.ref RW) → m' (Str.ofString "waiting") = some (.ref WT') → m' (Str.ofString "kinds") = some (.ref KD) → News h₀ L h' ((WT', listOf (wvs ++ [Value.ref T1, Value.ref T2]).toArray 0) :: (T2, ({ cls := .type "tuple", data := .seq #[.int (r.fmod 50 + 1) b1, .int (r + 1) b2] 0 } : Obj)) :: (T1, ({ cls := .type "tuple", data := .seq #[.int (r.fmod 50) a1, .int r tr] 0 } : Obj)) :: (RW, listOf (rowOf ls cur).toArray nR) :: (KD, listOf #[.str (Str.ofString "a") ta, .str (Str.ofString "d") td0, .str (Str.ofString "p") tp] nK) :: (P, instObj 1367 D) :: (D, dictOf (d.es w) 13) :: (CX, listOf (ctxOf ls).toArray nX) :: (CU, listOf cur.toArray nC) :: (RS, listOf (wvs ++ [Value.ref T1, Value.ref T2]).toArray (nS + 1)) :: (L + 1, oCE) :: tl) → (@Ne Nat KD WT' ∧ @Ne Nat WT WT' ∧ @Ne Nat CX WT' ∧ @Ne Nat CU WT' ∧ @Ne Nat RS WT' ∧ @Ne Nat RW WT') → (∀ p ∈ tl, p.1 ≠ WT') → Q .next { s with heap := h', toks := tk }) :
    wpAny (model PySem.Challenge.rw_ae5031_04.row.prog w) (callerA.deeper (envOfC (Str.ofString "law") lawScope L fa cd)) (exec chain (envOfC (Str.ofString "law") lawScope L fa cd)) (fun f s' => match f with | .next => wpAny (model PySem.Challenge.rw_ae5031_04.row.prog w) (callerA.deeper (envOfC (Str.ofString "law") lawScope L fa cd)) (execs [] (envOfC (Str.ofString "law") lawScope L fa cd)) Q E s' | f => Q f s') E s := by
  revert X
  k_fill
  intro X
  unfold chain
  k_steps
  refine' h _ _ _ _ ?F ?r ?w ?k ?N ?f0 ?t0
  (case F => assumption)
  (case r => first | rfl | decide)
  (case w => first | rfl | decide)
  (case k => first | rfl | decide)
  (case N => (refine news_sub (by assumption) ?_; (repeat' (first | exact fun p hp => hp | (refine sub_cons (by k_memK) ?_) | (refine sub_tail ?_)))))
  (case f0 => (refine ⟨?_, ?_, ?_, ?_, ?_, ?_⟩ <;> k_ne))
  (case t0 => k_all)
end
end Mine
end
section
theorem Mine.freshDpopall : True := by
  run_tac (do PyProof.Rows.walkLines.set (0, {}); PyProof.Rows.walkHit.set {}; PyProof.Rows.walkTop.set false; PyProof.Rows.walkStart.set 0; PyProof.Rows.walkLate.set false)
  trivial
open PySem PySem.W PySem.Calls PyProof.Rows
set_option Elab.async false
set_option maxRecDepth 100000
set_option maxHeartbeats 400000
set_option linter.unusedVariables false
set_option linter.unusedSimpArgs false
namespace Mine
local macro_rules | `(tactic| walk_at "last subscriptTail") => `(tactic| (k_here; (with_reducible show wpAny _ _ (subscriptTail _ (PySem.Expr.Slice _ _ none _) (Value.ref _) (Value.ref _)) _ _ _); k_dflt (refine' slice_any ?F ?N ?l ?p ?q ?e ?_ ?s ?t ?z; (case F => k_asm); (case N => k_asm); (case l => k_mem); (case p => kmk_part); (case q => kmk_part); (case e => (first | exact pick_from (by omega) | exact pick_upto (by omega) | exact pick_neg (by first | omega | (refine Int.neg_neg_of_pos ?_; omega)))); (case s => with_unfolding_all rfl); (case t => kmk_pure); (case z => (first | assumption | omega | (simp only [List.length_cons, List.length_nil, List.length_append, List.length_take, List.length_drop]; omega)))); intro D' h' F' N' l1; (try k_lt l1); (try k_sweep)))
local macro_rules | `(tactic| walk_at "subscriptTail Name Slice ref ref") => `(tactic| (k_here; (with_reducible show wpAny _ _ (subscriptTail _ (PySem.Expr.Slice _ _ none _) (Value.ref _) (Value.ref _)) _ _ _); k_dflt (refine' slice_any ?F ?N ?l ?p ?q ?e ?_ ?s ?t ?z; (case F => k_asm); (case N => k_asm); (case l => k_mem); (case p => kmk_part); (case q => kmk_part); (case e => (first | exact pick_from (by omega) | exact pick_upto (by omega) | exact pick_neg (by first | omega | (refine Int.neg_neg_of_pos ?_; omega)))); (case s => with_unfolding_all rfl); (case t => kmk_pure); (case z => (first | assumption | omega | (simp only [List.length_cons, List.length_nil, List.length_append, List.length_take, List.length_drop]; omega)))); intro D' h' F' N' l1; (try k_lt l1); (try k_sweep)))
local macro_rules | `(tactic| walk_at "setItem ref") => `(tactic| (k_here; k_dflt (refine' setSlice_neg ?F ?N ?b ?ne ?U ?x ?z ?_; (case F => k_asm); (case N => k_asm); (case b => k_mem); (case ne => k_ne); (case U => k_upd); (case x => (first | omega | (refine Int.neg_neg_of_pos ?_; omega))); (case z => (first | assumption | omega | (simp only [List.length_cons, List.length_nil, List.length_append, List.length_take, List.length_drop]; omega)))); intro h' F' N'; (try k_sweep)))
local macro_rules | `(tactic| walk_at "call builtin:len") => `(tactic| (k_here; (with_reducible show wpAny _ _ (call (Value.builtin "len") [Value.ref _]) _ _ _); k_dflt (refine' len_any ?N ?m ?z ?_; (case N => k_asm); (case m => k_mem); (case z => (first | assumption | omega | (simp only [List.length_cons, List.length_nil, List.length_append, List.length_take, List.length_drop]; omega))))))
local macro_rules | `(tactic| walk_at "truthy ref") => `(tactic| (k_here; k_dflt (refine' truthy_any ?N ?m ?z ?_; (case N => k_asm); (case m => k_mem); (case z => (first | assumption | omega | (simp only [List.length_cons, List.length_nil, List.length_append, List.length_take, List.length_drop]; omega)))); (try simp only [List.isEmpty_cons, List.isEmpty_nil, Bool.not_false, Bool.not_true])))
local macro_rules | `(tactic| walk_at "call builtin:list.pop") => `(tactic| (k_here; k_dflt (first | (refine' pop_last ?F ?N ?U ?z ?_; (case F => k_asm); (case N => k_asm); (case U => k_upd); (case z => (first | assumption | omega | (simp only [List.length_cons, List.length_nil, List.length_append, List.length_take, List.length_drop]; omega)))) | (refine' pop_first ?F ?N ?U ?z ?_; (case F => k_asm); (case N => k_asm); (case U => k_upd); (case z => (first | assumption | omega | (simp only [List.length_cons, List.length_nil, List.length_append, List.length_take, List.length_drop]; omega))))); intro h' F' N'; (try k_sweep)))
local macro_rules | `(tactic| walk_at "pyReprObj str") => `(tactic| (refine pyReprObj_str (hx := ?hx) ?_; (case hx => (rw [PySem.sizeLine_eq]; omega))))
local macro_rules | `(tactic| walk_at "compareOp NotEq str str") => `(tactic| first | refine ne_strs_true (by assumption) ?_ | refine ne_strs_false ?_)
local macro_rules | `(tactic| walk_at "SrcLP") => `(tactic| (k_here; k_dflt (refine LCp.SrcLP.ledger (by rfl) (by k_asm) (by k_asm) (by k_mem) (by (simp only [List.size_toArray, PySem.sizeLine_eq]; omega)) ?_; intro g'; (rename Secs _ _ _ => hsec'); refine rest_snd (by rfl) (by rfl) (by decide) (.inr ⟨_, by k_mem, rfl, _, rfl⟩) _ _ 0 [] (hsec'.mono (fun p hp => (by simp only [List.mem_cons]; first | exact hp | exact .inr hp | exact .inr (.inr hp) | exact .inr (.inr (.inr hp)) | exact .inr (.inr (.inr (.inr hp))) | exact .inr (.inr (.inr (.inr (.inr hp))))))) (fun j v hj => by simpa using hj) ?_); intro D' h' tk' F' N' off'; (try simp only [LCg.Off1] at off')))
local macro_rules | `(tactic| walk_at "call builtin:len") => `(tactic| (k_here; (with_reducible show wpAny _ _ (call (Value.builtin "len") [Value.ref _]) _ _ _); k_dflt (refine' len_ba_K ?N ?m ?_; (case N => k_asm); (case m => k_mem))))
local macro_rules | `(tactic| walk_at "compareOp In int bytes") => `(tactic| (k_here; refine in_bytes_true (by decide +kernel) (by decide +kernel) (by decide +kernel) ?_))
local macro_rules | `(tactic| walk_at "truthy bytes") => `(tactic| (k_here; refine truthy_b0 ?_))
local macro_rules | `(tactic| walk_at "UnrEnd") => `(tactic| (k_here; k_dflt (refine UnrEnd.intro (by assumption) (by assumption) _ (fun p hp => hp) (my_off (by assumption)) ?_)))
local macro_rules | `(tactic| walk_at "exec While UnaryOp cons nil") => `(tactic| (k_here; k_dflt (refine whl_start 4 ?_)))
local macro_rules | `(tactic| walk_at "subscriptTail Name Name ref int") => `(tactic| (k_here; (with_reducible show wpAny _ _ (subscriptTail _ _ (Value.ref _) (Value.int _ _)) _ _ _); k_dflt (refine' item_any ?N ?m ?x ?a ?z ?s ?_; (case N => k_asm); (case m => k_mem); (case x => assumption); (case a => first | assumption | omega); (case z => (first | assumption | omega | (simp only [List.length_cons, List.length_nil, List.length_append, List.length_take, List.length_drop]; omega))); (case s => with_unfolding_all rfl))))
local macro_rules | `(tactic| walk_at "subscriptTail Name BinOp ref int") => `(tactic| (k_here; (with_reducible show wpAny _ _ (subscriptTail _ _ (Value.ref _) (Value.int _ _)) _ _ _); k_dflt (refine' item_any ?N ?m ?x ?a ?z ?s ?_; (case N => k_asm); (case m => k_mem); (case x => assumption); (case a => first | assumption | omega); (case z => (first | assumption | omega | (simp only [List.length_cons, List.length_nil, List.length_append, List.length_take, List.length_drop]; omega))); (case s => with_unfolding_all rfl))))
local macro_rules | `(tactic| k_all) => `(tactic| assumption)
local macro_rules | `(tactic| k_ne) => `(tactic| (refine neN ?_; (try dsimp only); first | (refine Off.l (by assumption) ?_; k_memK; done) | (refine Off.r (by assumption) ?_; k_memK; done) | fail))
local macro_rules | `(tactic| walk_at "call ref") => `(tactic| (k_here; (with_reducible show wpAny _ _ (call (Value.ref 1333) _ []) _ _ _); k_dflt (refine' popallU ?B ?F ?X ?T ?N ?m1 ?U ?c ?_; (case B => assumption); (case F => k_asm); (case X => assumption); (case T => assumption); (case N => k_asm); (case m1 => k_mem); (case U => k_updF); (case c => assumption)); intro h' tk' A1 F' N' l1; (try k_lt l1); (try dsimp only at N')))
local macro_rules | `(tactic| walk_at "compareOp NotEq ref ref") => `(tactic| (k_here; (with_reducible show wpAny _ _ (compareOp CmpOp.NotEq (Value.ref _) (Value.ref _)) _ _ _); k_dflt (refine' ne_same_list ?N ?a ?b ?u ?_; (case N => k_asm); (case a => k_mem); (case b => k_mem); (case u => exact Nat.le_of_ble_eq_true rfl))))
local macro_rules | `(tactic| walk_at "last subscriptTail") => `(tactic| (k_here; (with_reducible show wpAny _ _ (subscriptTail _ (PySem.Expr.Slice _ _ none _) (Value.ref _) (Value.ref _)) _ _ _); k_dflt (refine' slice_any ?F ?N ?l ?p ?q ?e ?_ ?s ?t ?z; (case F => k_asm); (case N => k_asm); (case l => k_mem); (case p => kmk_part); (case q => kmk_part); (case e => first | exact (pick_from (by omega)).trans (congrArg List.toArray (by assumption)) | exact (pick_upto (by omega)).trans (congrArg List.toArray (by assumption))); (case s => with_unfolding_all rfl); (case t => kmk_pure); (case z => (first | assumption | omega | (simp only [List.length_cons, List.length_nil, List.length_append, List.length_take, List.length_drop]; omega)))); intro D' h' F' N' l1; (try k_lt l1); (try k_sweep)))
local macro_rules | `(tactic| walk_at "subscriptTail Name Slice ref ref") => `(tactic| (k_here; (with_reducible show wpAny _ _ (subscriptTail _ (PySem.Expr.Slice _ _ none _) (Value.ref _) (Value.ref _)) _ _ _); k_dflt (refine' slice_any ?F ?N ?l ?p ?q ?e ?_ ?s ?t ?z; (case F => k_asm); (case N => k_asm); (case l => k_mem); (case p => kmk_part); (case q => kmk_part); (case e => first | exact (pick_from (by omega)).trans (congrArg List.toArray (by assumption)) | exact (pick_upto (by omega)).trans (congrArg List.toArray (by assumption))); (case s => with_unfolding_all rfl); (case t => kmk_pure); (case z => (first | assumption | omega | (simp only [List.length_cons, List.length_nil, List.length_append, List.length_take, List.length_drop]; omega)))); intro D' h' F' N' l1; (try k_lt l1); (try k_sweep)))
section
variable {w : World} {E : Value → Shared → Prop} {Q : Flow → Shared → Prop} {s : Shared} {h₀ : Heap} {L fa : Addr} {cd : Value} {u : Str → Option Value}
  {p : Program} {loose : List Str} {mean : ExcName → Option Value} {mg mb : Str → Option Value} {tl : List (Addr × Obj)} {RW KD WT P D CX CU RS T1 T2 : Addr} {ls : List Lev} {cur wvs : List Value} {nR nK nW nX nC nS : Nat} {d : PD} {oCE : Obj} {ta td0 tp tb td tr a1 b1 b2 : Tok} {r dd bg : Int} {kd : Value} {bx nx : Option Value}
theorem deedPopall {j : Nat} (B : Below callerA h₀ [] h₀) (X : (K w.params).In h₀) (T : Top p loose mean mg mb h₀) (F : Fr h₀ L s.heap (fun y => if y = Str.ofString "first" then some (Value.ref T1) else if y = Str.ofString "second" then some (Value.ref T2) else if y = Str.ofString "kind" then some kd else if y = Str.ofString "begin" then some (Value.int ((j : Int) - 1) tb) else if y = Str.ofString "deed" then some (Value.int 7 td) else if y = Str.ofString "rest" then some (Value.int r tr) else if y = Str.ofString "rest" then bx else if y = Str.ofString "number" then nx else if y = Str.ofString "row" then some (Value.ref RW) else if y = Str.ofString "waiting" then some (Value.ref WT) else if y = Str.ofString "kinds" then some (Value.ref KD) else u y))
    (N : News h₀ L s.heap ((T2, ({ cls := .type "tuple", data := .seq #[.int (r.fmod 50 + 1) b1, .int (r + 1) b2] 0 } : Obj)) :: (T1, ({ cls := .type "tuple", data := .seq #[.int (r.fmod 50) a1, .int r tr] 0 } : Obj)) :: (RW, listOf (rowOf ls cur).toArray nR) :: (KD, listOf #[.str (Str.ofString "a") ta, .str (Str.ofString "d") td0, .str (Str.ofString "p") tp] nK) :: (WT, listOf wvs.toArray nW) :: (P, instObj 1367 D) :: (D, dictOf (d.es w) 13) :: (CX, listOf (ctxOf ls).toArray nX) :: (CU, listOf cur.toArray nC) :: (RS, listOf wvs.toArray nS) :: (L + 1, oCE) :: tl)) (l1 : (@LT.lt Nat _ (RW) T1 ∧ @LT.lt Nat _ (KD) T1 ∧ @LT.lt Nat _ (WT) T1 ∧ @LT.lt Nat _ (P) T1 ∧ @LT.lt Nat _ (D) T1 ∧ @LT.lt Nat _ (CX) T1 ∧ @LT.lt Nat _ (CU) T1 ∧ @LT.lt Nat _ (RS) T1 ∧ @LT.lt Nat _ (L + 1) T1 ∧ AllLt T1 tl)) (l2 : @LT.lt Nat _ T1 T2 ∧ @LT.lt Nat _ (RW) T2 ∧ @LT.lt Nat _ (KD) T2 ∧ @LT.lt Nat _ (WT) T2 ∧ @LT.lt Nat _ (P) T2 ∧ @LT.lt Nat _ (D) T2 ∧ @LT.lt Nat _ (CX) T2 ∧ @LT.lt Nat _ (CU) T2 ∧ @LT.lt Nat _ (RS) T2 ∧ @LT.lt Nat _ (L + 1) T2 ∧ AllLt T2 tl)
    (hce : oCE.data = .cell (some (.ref P))) (hlen : (rowOf ls cur).length ≤ 100) (hwl : wvs.length ≤ 100) (hcl : cur.length ≤ 100) (hr : 0 ≤ r) (hr2 : r < 10000) (hcu : d.curstack = .ref CU) (hd1 : (rowOf ls cur).drop ((j : Int) - 1 + 1).toNat = cur) (hd2 : (rowOf ls cur).take ((j : Int) - 1 + 1).toNat = rowOf ls [])
    (oD : Off D [RW, KD, WT, P, CX, CU, RS, L + 1]) (tD : ∀ p ∈ tl, p.1 ≠ D)
    (h : ∀ h' tk m' RW' A1, Fr h₀ L h' m' → m' (Str.ofString "row") = some (.ref RW') → m' (Str.ofString "waiting") = some (.ref WT) → m' (Str.ofString "kinds") = some (.ref KD) → News h₀ L h' ((RW', listOf (rowOf ls []).toArray 0) :: (A1, listOf #[] 0) :: (KD, listOf #[.str (Str.ofString "a") ta, .str (Str.ofString "d") td0, .str (Str.ofString "p") tp] nK) :: (WT, listOf wvs.toArray nW) :: (P, instObj 1367 D) :: (D, dictOf (PD.es w { d with curstack := .ref A1 }) 13) :: (CX, listOf (ctxOf ls).toArray nX) :: (CU, listOf cur.toArray nC) :: (RS, listOf wvs.toArray nS) :: (L + 1, oCE) :: tl) → (@Ne Nat KD RW' ∧ @Ne Nat WT RW' ∧ @Ne Nat CX RW' ∧ @Ne Nat CU RW' ∧ @Ne Nat RS RW' ∧ @Ne Nat RW RW' ∧ @Ne Nat A1 RW') → (∀ p ∈ tl, p.1 ≠ RW') → (@Ne Nat KD A1 ∧ @Ne Nat WT A1 ∧ @Ne Nat CX A1 ∧ @Ne Nat CU A1 ∧ @Ne Nat RS A1 ∧ @Ne Nat RW A1) → (∀ p ∈ tl, p.1 ≠ A1) → Q .next { s with heap := h', toks := tk }) :
    wpAny (model PySem.Challenge.rw_ae5031_04.row.prog w) (callerA.deeper (envOfC (Str.ofString "law") lawScope L fa cd)) (exec chain (envOfC (Str.ofString "law") lawScope L fa cd)) (fun f s' => match f with | .next => wpAny (model PySem.Challenge.rw_ae5031_04.row.prog w) (callerA.deeper (envOfC (Str.ofString "law") lawScope L fa cd)) (execs [] (envOfC (Str.ofString "law") lawScope L fa cd)) Q E s' | f => Q f s') E s := by
  revert X
  k_fill
  intro X
  unfold chain
  k_steps
  refine' h _ _ _ _ _ ?F ?r ?w ?k ?N ?f0 ?t0 ?f1 ?t1
  (case F => assumption)
  (case r => first | rfl | decide)
  (case w => first | rfl | decide)
  (case k => first | rfl | decide)
  (case N => (refine news_sub (by assumption) ?_; (repeat' (first | exact fun p hp => hp | (refine sub_cons (by k_memK) ?_) | (refine sub_tail ?_)))))
  (case f0 => (refine ⟨?_, ?_, ?_, ?_, ?_, ?_, ?_⟩ <;> k_ne))
  (case t0 => k_all)
  (case f1 => (refine ⟨?_, ?_, ?_, ?_, ?_, ?_⟩ <;> k_ne))
  (case t1 => k_all)
end
end Mine
end
section
theorem Mine.freshDreset : True := by
  run_tac (do PyProof.Rows.walkLines.set (0, {}); PyProof.Rows.walkHit.set {}; PyProof.Rows.walkTop.set false; PyProof.Rows.walkStart.set 0; PyProof.Rows.walkLate.set false)
  trivial
open PySem PySem.W PySem.Calls PyProof.Rows
set_option Elab.async false
set_option maxRecDepth 100000
set_option maxHeartbeats 400000
set_option linter.unusedVariables false
set_option linter.unusedSimpArgs false
namespace Mine
local macro_rules | `(tactic| walk_at "last subscriptTail") => `(tactic| (k_here; (with_reducible show wpAny _ _ (subscriptTail _ (PySem.Expr.Slice _ _ none _) (Value.ref _) (Value.ref _)) _ _ _); k_dflt (refine' slice_any ?F ?N ?l ?p ?q ?e ?_ ?s ?t ?z; (case F => k_asm); (case N => k_asm); (case l => k_mem); (case p => kmk_part); (case q => kmk_part); (case e => (first | exact pick_from (by omega) | exact pick_upto (by omega) | exact pick_neg (by first | omega | (refine Int.neg_neg_of_pos ?_; omega)))); (case s => with_unfolding_all rfl); (case t => kmk_pure); (case z => (first | assumption | omega | (simp only [List.length_cons, List.length_nil, List.length_append, List.length_take, List.length_drop]; omega)))); intro D' h' F' N' l1; (try k_lt l1); (try k_sweep)))
local macro_rules | `(tactic| walk_at "subscriptTail Name Slice ref ref") => `(tactic| (k_here; (with_reducible show wpAny _ _ (subscriptTail _ (PySem.Expr.Slice _ _ none _) (Value.ref _) (Value.ref _)) _ _ _); k_dflt (refine' slice_any ?F ?N ?l ?p ?q ?e ?_ ?s ?t ?z; (case F => k_asm); (case N => k_asm); (case l => k_mem); (case p => kmk_part); (case q => kmk_part); (case e => (first | exact pick_from (by omega) | exact pick_upto (by omega) | exact pick_neg (by first | omega | (refine Int.neg_neg_of_pos ?_; omega)))); (case s => with_unfolding_all rfl); (case t => kmk_pure); (case z => (first | assumption | omega | (simp only [List.length_cons, List.length_nil, List.length_append, List.length_take, List.length_drop]; omega)))); intro D' h' F' N' l1; (try k_lt l1); (try k_sweep)))
local macro_rules | `(tactic| walk_at "setItem ref") => `(tactic| (k_here; k_dflt (refine' setSlice_neg ?F ?N ?b ?ne ?U ?x ?z ?_; (case F => k_asm); (case N => k_asm); (case b => k_mem); (case ne => k_ne); (case U => k_upd); (case x => (first | omega | (refine Int.neg_neg_of_pos ?_; omega))); (case z => (first | assumption | omega | (simp only [List.length_cons, List.length_nil, List.length_append, List.length_take, List.length_drop]; omega)))); intro h' F' N'; (try k_sweep)))
local macro_rules | `(tactic| walk_at "call builtin:len") => `(tactic| (k_here; (with_reducible show wpAny _ _ (call (Value.builtin "len") [Value.ref _]) _ _ _); k_dflt (refine' len_any ?N ?m ?z ?_; (case N => k_asm); (case m => k_mem); (case z => (first | assumption | omega | (simp only [List.length_cons, List.length_nil, List.length_append, List.length_take, List.length_drop]; omega))))))
local macro_rules | `(tactic| walk_at "truthy ref") => `(tactic| (k_here; k_dflt (refine' truthy_any ?N ?m ?z ?_; (case N => k_asm); (case m => k_mem); (case z => (first | assumption | omega | (simp only [List.length_cons, List.length_nil, List.length_append, List.length_take, List.length_drop]; omega)))); (try simp only [List.isEmpty_cons, List.isEmpty_nil, Bool.not_false, Bool.not_true])))
local macro_rules | `(tactic| walk_at "call builtin:list.pop") => `(tactic| (k_here; k_dflt (first | (refine' pop_last ?F ?N ?U ?z ?_; (case F => k_asm); (case N => k_asm); (case U => k_upd); (case z => (first | assumption | omega | (simp only [List.length_cons, List.length_nil, List.length_append, List.length_take, List.length_drop]; omega)))) | (refine' pop_first ?F ?N ?U ?z ?_; (case F => k_asm); (case N => k_asm); (case U => k_upd); (case z => (first | assumption | omega | (simp only [List.length_cons, List.length_nil, List.length_append, List.length_take, List.length_drop]; omega))))); intro h' F' N'; (try k_sweep)))
local macro_rules | `(tactic| walk_at "pyReprObj str") => `(tactic| (refine pyReprObj_str (hx := ?hx) ?_; (case hx => (rw [PySem.sizeLine_eq]; omega))))
local macro_rules | `(tactic| walk_at "compareOp NotEq str str") => `(tactic| first | refine ne_strs_true (by assumption) ?_ | refine ne_strs_false ?_)
local macro_rules | `(tactic| walk_at "SrcLP") => `(tactic| (k_here; k_dflt (refine LCp.SrcLP.ledger (by rfl) (by k_asm) (by k_asm) (by k_mem) (by (simp only [List.size_toArray, PySem.sizeLine_eq]; omega)) ?_; intro g'; (rename Secs _ _ _ => hsec'); refine rest_snd (by rfl) (by rfl) (by decide) (.inr ⟨_, by k_mem, rfl, _, rfl⟩) _ _ 0 [] (hsec'.mono (fun p hp => (by simp only [List.mem_cons]; first | exact hp | exact .inr hp | exact .inr (.inr hp) | exact .inr (.inr (.inr hp)) | exact .inr (.inr (.inr (.inr hp))) | exact .inr (.inr (.inr (.inr (.inr hp))))))) (fun j v hj => by simpa using hj) ?_); intro D' h' tk' F' N' off'; (try simp only [LCg.Off1] at off')))
local macro_rules | `(tactic| walk_at "call builtin:len") => `(tactic| (k_here; (with_reducible show wpAny _ _ (call (Value.builtin "len") [Value.ref _]) _ _ _); k_dflt (refine' len_ba_K ?N ?m ?_; (case N => k_asm); (case m => k_mem))))
local macro_rules | `(tactic| walk_at "compareOp In int bytes") => `(tactic| (k_here; refine in_bytes_true (by decide +kernel) (by decide +kernel) (by decide +kernel) ?_))
local macro_rules | `(tactic| walk_at "truthy bytes") => `(tactic| (k_here; refine truthy_b0 ?_))
local macro_rules | `(tactic| walk_at "UnrEnd") => `(tactic| (k_here; k_dflt (refine UnrEnd.intro (by assumption) (by assumption) _ (fun p hp => hp) (my_off (by assumption)) ?_)))
local macro_rules | `(tactic| walk_at "exec While UnaryOp cons nil") => `(tactic| (k_here; k_dflt (refine whl_start 4 ?_)))
local macro_rules | `(tactic| walk_at "subscriptTail Name Name ref int") => `(tactic| (k_here; (with_reducible show wpAny _ _ (subscriptTail _ _ (Value.ref _) (Value.int _ _)) _ _ _); k_dflt (refine' item_any ?N ?m ?x ?a ?z ?s ?_; (case N => k_asm); (case m => k_mem); (case x => assumption); (case a => first | assumption | omega); (case z => (first | assumption | omega | (simp only [List.length_cons, List.length_nil, List.length_append, List.length_take, List.length_drop]; omega))); (case s => with_unfolding_all rfl))))
local macro_rules | `(tactic| walk_at "subscriptTail Name BinOp ref int") => `(tactic| (k_here; (with_reducible show wpAny _ _ (subscriptTail _ _ (Value.ref _) (Value.int _ _)) _ _ _); k_dflt (refine' item_any ?N ?m ?x ?a ?z ?s ?_; (case N => k_asm); (case m => k_mem); (case x => assumption); (case a => first | assumption | omega); (case z => (first | assumption | omega | (simp only [List.length_cons, List.length_nil, List.length_append, List.length_take, List.length_drop]; omega))); (case s => with_unfolding_all rfl))))
local macro_rules | `(tactic| k_all) => `(tactic| assumption)
local macro_rules | `(tactic| k_ne) => `(tactic| (refine neN ?_; (try dsimp only); first | (refine Off.l (by assumption) ?_; k_memK; done) | (refine Off.r (by assumption) ?_; k_memK; done) | fail))
local macro_rules | `(tactic| walk_at "call ref") => `(tactic| (k_here; (with_reducible show wpAny _ _ (call (Value.ref 1305) _ []) _ _ _); k_dflt (refine' resetU ?B ?F ?X ?T ?N ?m1 ?U ?_; (case B => assumption); (case F => k_asm); (case X => assumption); (case T => assumption); (case N => k_asm); (case m1 => k_mem); (case U => k_updF)); intro h' tk' A3 A2 A1 F' N' l1 l1b l1c l2 l3; (try k_lt l1); (try k_lt l1b); (try k_lt l1c); (replace l2 := ltN l2); (replace l3 := ltN l3); (try dsimp only at N')))
section
variable {w : World} {E : Value → Shared → Prop} {Q : Flow → Shared → Prop} {s : Shared} {h₀ : Heap} {L fa : Addr} {cd : Value} {u : Str → Option Value}
  {p : Program} {loose : List Str} {mean : ExcName → Option Value} {mg mb : Str → Option Value} {tl : List (Addr × Obj)} {RW KD WT P D CX CU RS T1 T2 : Addr} {ls : List Lev} {cur wvs : List Value} {nR nK nW nX nC nS : Nat} {d : PD} {oCE : Obj} {ta td0 tp tb td tr a1 b1 b2 : Tok} {r dd bg : Int} {kd : Value} {bx nx : Option Value}
theorem deedReset (B : Below callerA h₀ [] h₀) (X : (K w.params).In h₀) (T : Top p loose mean mg mb h₀) (F : Fr h₀ L s.heap (fun y => if y = Str.ofString "first" then some (Value.ref T1) else if y = Str.ofString "second" then some (Value.ref T2) else if y = Str.ofString "kind" then some kd else if y = Str.ofString "begin" then some (Value.int bg tb) else if y = Str.ofString "deed" then some (Value.int 10 td) else if y = Str.ofString "rest" then some (Value.int r tr) else if y = Str.ofString "rest" then bx else if y = Str.ofString "number" then nx else if y = Str.ofString "row" then some (Value.ref RW) else if y = Str.ofString "waiting" then some (Value.ref WT) else if y = Str.ofString "kinds" then some (Value.ref KD) else u y))
    (N : News h₀ L s.heap ((T2, ({ cls := .type "tuple", data := .seq #[.int (r.fmod 50 + 1) b1, .int (r + 1) b2] 0 } : Obj)) :: (T1, ({ cls := .type "tuple", data := .seq #[.int (r.fmod 50) a1, .int r tr] 0 } : Obj)) :: (RW, listOf (rowOf ls cur).toArray nR) :: (KD, listOf #[.str (Str.ofString "a") ta, .str (Str.ofString "d") td0, .str (Str.ofString "p") tp] nK) :: (WT, listOf wvs.toArray nW) :: (P, instObj 1367 D) :: (D, dictOf (d.es w) 13) :: (CX, listOf (ctxOf ls).toArray nX) :: (CU, listOf cur.toArray nC) :: (RS, listOf wvs.toArray nS) :: (L + 1, oCE) :: tl)) (l1 : (@LT.lt Nat _ (RW) T1 ∧ @LT.lt Nat _ (KD) T1 ∧ @LT.lt Nat _ (WT) T1 ∧ @LT.lt Nat _ (P) T1 ∧ @LT.lt Nat _ (D) T1 ∧ @LT.lt Nat _ (CX) T1 ∧ @LT.lt Nat _ (CU) T1 ∧ @LT.lt Nat _ (RS) T1 ∧ @LT.lt Nat _ (L + 1) T1 ∧ AllLt T1 tl)) (l2 : @LT.lt Nat _ T1 T2 ∧ @LT.lt Nat _ (RW) T2 ∧ @LT.lt Nat _ (KD) T2 ∧ @LT.lt Nat _ (WT) T2 ∧ @LT.lt Nat _ (P) T2 ∧ @LT.lt Nat _ (D) T2 ∧ @LT.lt Nat _ (CX) T2 ∧ @LT.lt Nat _ (CU) T2 ∧ @LT.lt Nat _ (RS) T2 ∧ @LT.lt Nat _ (L + 1) T2 ∧ AllLt T2 tl)
    (hce : oCE.data = .cell (some (.ref P))) (hlen : (rowOf ls cur).length ≤ 100) (hwl : wvs.length ≤ 100) (hcl : cur.length ≤ 100) (hr : 0 ≤ r) (hr2 : r < 10000) 
    (oD : Off D [RW, KD, WT, P, CX, CU, RS, L + 1]) (tD : ∀ p ∈ tl, p.1 ≠ D)
    (h : ∀ h' tk m' RW' WT' A3 A2 A1, Fr h₀ L h' m' → m' (Str.ofString "row") = some (.ref RW') → m' (Str.ofString "waiting") = some (.ref WT') → m' (Str.ofString "kinds") = some (.ref KD) → News h₀ L h' ((D, dictOf (PD.es w { d with context := .ref A1, curtype := .none, curstack := .ref A2, results := .ref A3 }) 13) :: (RW', listOf #[] 0) :: (WT', listOf #[] 0) :: (A3, listOf #[] 0) :: (A2, listOf #[] 0) :: (A1, listOf #[] 0) :: (KD, listOf #[.str (Str.ofString "a") ta, .str (Str.ofString "d") td0, .str (Str.ofString "p") tp] nK) :: (P, instObj 1367 D) :: (CX, listOf (ctxOf ls).toArray nX) :: (CU, listOf cur.toArray nC) :: (RS, listOf wvs.toArray nS) :: (L + 1, oCE) :: tl) → (@Ne Nat KD RW' ∧ @Ne Nat KD WT' ∧ @Ne Nat KD A1 ∧ @Ne Nat KD A2 ∧ @Ne Nat KD A3) → (@Ne Nat RW' WT' ∧ @Ne Nat RW' A1 ∧ @Ne Nat RW' A2 ∧ @Ne Nat RW' A3 ∧ @Ne Nat WT' A1 ∧ @Ne Nat WT' A2 ∧ @Ne Nat WT' A3 ∧ @Ne Nat A1 A2 ∧ @Ne Nat A1 A3 ∧ @Ne Nat A2 A3) → (∀ p ∈ tl, p.1 ≠ RW') → (∀ p ∈ tl, p.1 ≠ WT') → (∀ p ∈ tl, p.1 ≠ A1) → (∀ p ∈ tl, p.1 ≠ A2) → (∀ p ∈ tl, p.1 ≠ A3) → Q .next { s with heap := h', toks := tk })
    (h2 : ∀ h' tk m' , Fr h₀ L h' m' → m' (Str.ofString "row") = some (.ref RW) → m' (Str.ofString "waiting") = some (.ref WT) → m' (Str.ofString "kinds") = some (.ref KD) → News h₀ L h' ((T2, ({ cls := .type "tuple", data := .seq #[.int (r.fmod 50 + 1) b1, .int (r + 1) b2] 0 } : Obj)) :: (T1, ({ cls := .type "tuple", data := .seq #[.int (r.fmod 50) a1, .int r tr] 0 } : Obj)) :: (RW, listOf (rowOf ls cur).toArray nR) :: (KD, listOf #[.str (Str.ofString "a") ta, .str (Str.ofString "d") td0, .str (Str.ofString "p") tp] nK) :: (WT, listOf wvs.toArray nW) :: (P, instObj 1367 D) :: (D, dictOf (d.es w) 13) :: (CX, listOf (ctxOf ls).toArray nX) :: (CU, listOf cur.toArray nC) :: (RS, listOf wvs.toArray nS) :: (L + 1, oCE) :: tl) → Q .next { s with heap := h', toks := tk }) :
    wpAny (model PySem.Challenge.rw_ae5031_04.row.prog w) (callerA.deeper (envOfC (Str.ofString "law") lawScope L fa cd)) (exec chain (envOfC (Str.ofString "law") lawScope L fa cd)) (fun f s' => match f with | .next => wpAny (model PySem.Challenge.rw_ae5031_04.row.prog w) (callerA.deeper (envOfC (Str.ofString "law") lawScope L fa cd)) (execs [] (envOfC (Str.ofString "law") lawScope L fa cd)) Q E s' | f => Q f s') E s := by
  revert X
  k_fill
  intro X
  unfold chain
  k_steps
  rotate_left
  refine' h2 _ _ _  ?F ?r ?w ?k ?N 
  (case F => assumption)
  (case r => first | rfl | decide)
  (case w => first | rfl | decide)
  (case k => first | rfl | decide)
  (case N => (refine news_sub (by assumption) ?_; (repeat' (first | exact fun p hp => hp | (refine sub_cons (by k_memK) ?_) | (refine sub_tail ?_)))))
  refine' h _ _ _ _ _ _ _ _ ?F ?r ?w ?k ?N ?x1 ?x2 ?y1 ?y2 ?y3 ?y4 ?y5
  (case F => assumption)
  (case r => first | rfl | decide)
  (case w => first | rfl | decide)
  (case k => first | rfl | decide)
  (case N => (refine news_sub (by assumption) ?_; (repeat' (first | exact fun p hp => hp | (refine sub_cons (by k_memK) ?_) | (refine sub_tail ?_)))))
  (case x1 => (refine ⟨?_, ?_, ?_, ?_, ?_⟩ <;> k_ne))
  (case x2 => (refine ⟨?_, ?_, ?_, ?_, ?_, ?_, ?_, ?_, ?_, ?_⟩ <;> k_ne))
  all_goals k_all
end
end Mine
end
section
theorem Mine.freshDasked1 : True := by
  run_tac (do PyProof.Rows.walkLines.set (0, {}); PyProof.Rows.walkHit.set {}; PyProof.Rows.walkTop.set false; PyProof.Rows.walkStart.set 0; PyProof.Rows.walkLate.set false)
  trivial
open PySem PySem.W PySem.Calls PyProof.Rows
set_option Elab.async false
set_option maxRecDepth 100000
set_option maxHeartbeats 4000000
set_option linter.unusedVariables false
set_option linter.unusedSimpArgs false
namespace Mine
local macro_rules | `(tactic| walk_at "last subscriptTail") => `(tactic| (k_here; (with_reducible show wpAny _ _ (subscriptTail _ (PySem.Expr.Slice _ _ none _) (Value.ref _) (Value.ref _)) _ _ _); k_dflt (refine' slice_any ?F ?N ?l ?p ?q ?e ?_ ?s ?t ?z; (case F => k_asm); (case N => k_asm); (case l => k_mem); (case p => kmk_part); (case q => kmk_part); (case e => (first | exact pick_from (by omega) | exact pick_upto (by omega) | exact pick_neg (by first | omega | (refine Int.neg_neg_of_pos ?_; omega)))); (case s => with_unfolding_all rfl); (case t => kmk_pure); (case z => (first | assumption | omega | (simp only [List.length_cons, List.length_nil, List.length_append, List.length_take, List.length_drop]; omega)))); intro D' h' F' N' l1; (try k_lt l1); (try k_sweep)))
local macro_rules | `(tactic| walk_at "subscriptTail Name Slice ref ref") => `(tactic| (k_here; (with_reducible show wpAny _ _ (subscriptTail _ (PySem.Expr.Slice _ _ none _) (Value.ref _) (Value.ref _)) _ _ _); k_dflt (refine' slice_any ?F ?N ?l ?p ?q ?e ?_ ?s ?t ?z; (case F => k_asm); (case N => k_asm); (case l => k_mem); (case p => kmk_part); (case q => kmk_part); (case e => (first | exact pick_from (by omega) | exact pick_upto (by omega) | exact pick_neg (by first | omega | (refine Int.neg_neg_of_pos ?_; omega)))); (case s => with_unfolding_all rfl); (case t => kmk_pure); (case z => (first | assumption | omega | (simp only [List.length_cons, List.length_nil, List.length_append, List.length_take, List.length_drop]; omega)))); intro D' h' F' N' l1; (try k_lt l1); (try k_sweep)))
local macro_rules | `(tactic| walk_at "setItem ref") => `(tactic| (k_here; k_dflt (refine' setSlice_neg ?F ?N ?b ?ne ?U ?x ?z ?_; (case F => k_asm); (case N => k_asm); (case b => k_mem); (case ne => k_ne); (case U => k_upd); (case x => (first | omega | (refine Int.neg_neg_of_pos ?_; omega))); (case z => (first | assumption | omega | (simp only [List.length_cons, List.length_nil, List.length_append, List.length_take, List.length_drop]; omega)))); intro h' F' N'; (try k_sweep)))
local macro_rules | `(tactic| walk_at "call builtin:len") => `(tactic| (k_here; (with_reducible show wpAny _ _ (call (Value.builtin "len") [Value.ref _]) _ _ _); k_dflt (refine' len_any ?N ?m ?z ?_; (case N => k_asm); (case m => k_mem); (case z => (first | assumption | omega | (simp only [List.length_cons, List.length_nil, List.length_append, List.length_take, List.length_drop]; omega))))))
local macro_rules | `(tactic| walk_at "truthy ref") => `(tactic| (k_here; k_dflt (refine' truthy_any ?N ?m ?z ?_; (case N => k_asm); (case m => k_mem); (case z => (first | assumption | omega | (simp only [List.length_cons, List.length_nil, List.length_append, List.length_take, List.length_drop]; omega)))); (try simp only [List.isEmpty_cons, List.isEmpty_nil, Bool.not_false, Bool.not_true])))
local macro_rules | `(tactic| walk_at "call builtin:list.pop") => `(tactic| (k_here; k_dflt (first | (refine' pop_last ?F ?N ?U ?z ?_; (case F => k_asm); (case N => k_asm); (case U => k_upd); (case z => (first | assumption | omega | (simp only [List.length_cons, List.length_nil, List.length_append, List.length_take, List.length_drop]; omega)))) | (refine' pop_first ?F ?N ?U ?z ?_; (case F => k_asm); (case N => k_asm); (case U => k_upd); (case z => (first | assumption | omega | (simp only [List.length_cons, List.length_nil, List.length_append, List.length_take, List.length_drop]; omega))))); intro h' F' N'; (try k_sweep)))
local macro_rules | `(tactic| walk_at "pyReprObj str") => `(tactic| (refine pyReprObj_str (hx := ?hx) ?_; (case hx => (rw [PySem.sizeLine_eq]; omega))))
local macro_rules | `(tactic| walk_at "compareOp NotEq str str") => `(tactic| first | refine ne_strs_true (by assumption) ?_ | refine ne_strs_false ?_)
local macro_rules | `(tactic| walk_at "SrcLP") => `(tactic| (k_here; k_dflt (refine LCp.SrcLP.ledger (by rfl) (by k_asm) (by k_asm) (by k_mem) (by (simp only [List.size_toArray, PySem.sizeLine_eq]; omega)) ?_; intro g'; (rename Secs _ _ _ => hsec'); refine rest_snd (by rfl) (by rfl) (by decide) (.inr ⟨_, by k_mem, rfl, _, rfl⟩) _ _ 0 [] (hsec'.mono (fun p hp => (by simp only [List.mem_cons]; first | exact hp | exact .inr hp | exact .inr (.inr hp) | exact .inr (.inr (.inr hp)) | exact .inr (.inr (.inr (.inr hp))) | exact .inr (.inr (.inr (.inr (.inr hp))))))) (fun j v hj => by simpa using hj) ?_); intro D' h' tk' F' N' off'; (try simp only [LCg.Off1] at off')))
local macro_rules | `(tactic| walk_at "call builtin:len") => `(tactic| (k_here; (with_reducible show wpAny _ _ (call (Value.builtin "len") [Value.ref _]) _ _ _); k_dflt (refine' len_ba_K ?N ?m ?_; (case N => k_asm); (case m => k_mem))))
local macro_rules | `(tactic| walk_at "compareOp In int bytes") => `(tactic| (k_here; refine in_bytes_true (by decide +kernel) (by decide +kernel) (by decide +kernel) ?_))
local macro_rules | `(tactic| walk_at "truthy bytes") => `(tactic| (k_here; refine truthy_b0 ?_))
local macro_rules | `(tactic| walk_at "UnrEnd") => `(tactic| (k_here; k_dflt (refine UnrEnd.intro (by assumption) (by assumption) _ (fun p hp => hp) (my_off (by assumption)) ?_)))
local macro_rules | `(tactic| walk_at "exec While UnaryOp cons nil") => `(tactic| (k_here; k_dflt (refine whl_start 4 ?_)))
local macro_rules | `(tactic| walk_at "subscriptTail Name Name ref int") => `(tactic| (k_here; (with_reducible show wpAny _ _ (subscriptTail _ _ (Value.ref _) (Value.int _ _)) _ _ _); k_dflt (refine' item_any ?N ?m ?x ?a ?z ?s ?_; (case N => k_asm); (case m => k_mem); (case x => assumption); (case a => first | assumption | omega); (case z => (first | assumption | omega | (simp only [List.length_cons, List.length_nil, List.length_append, List.length_take, List.length_drop]; omega))); (case s => with_unfolding_all rfl))))
local macro_rules | `(tactic| walk_at "subscriptTail Name BinOp ref int") => `(tactic| (k_here; (with_reducible show wpAny _ _ (subscriptTail _ _ (Value.ref _) (Value.int _ _)) _ _ _); k_dflt (refine' item_any ?N ?m ?x ?a ?z ?s ?_; (case N => k_asm); (case m => k_mem); (case x => assumption); (case a => first | assumption | omega); (case z => (first | assumption | omega | (simp only [List.length_cons, List.length_nil, List.length_append, List.length_take, List.length_drop]; omega))); (case s => with_unfolding_all rfl))))
local macro_rules | `(tactic| k_all) => `(tactic| assumption)
local macro_rules | `(tactic| k_ne) => `(tactic| (refine neN ?_; (try dsimp only); first | (refine Off.l (by assumption) ?_; k_memK; done) | (refine Off.r (by assumption) ?_; k_memK; done) | fail))
local macro_rules | `(tactic| walk_at "call ref") => `(tactic| (k_here; (with_reducible show wpAny _ _ (call (Value.ref 1656) _ []) _ _ _); k_dflt (refine' asked1U ?zzB ?zzF ?zzX ?zzT ?zzN ?zzm1 ?zzm2 ?zzU ?zzc ?zzz ?_; (case zzB => assumption); (case zzF => k_asm); (case zzX => assumption); (case zzT => assumption); (case zzN => k_asm); (case zzm1 => k_mem); (case zzm2 => k_mem); (case zzc => assumption); (case zzU => k_updF); (case zzz => (first | assumption | omega | (simp only [List.length_cons, List.length_nil, List.length_append, List.length_take, List.length_drop]; omega)))); intro h' tk' F' N'; (try dsimp only at N')))
local macro_rules | `(tactic| walk_at "compareOp NotEq ref ref") => `(tactic| (k_here; (with_reducible show wpAny _ _ (compareOp CmpOp.NotEq (Value.ref _) (Value.ref _)) _ _ _); k_dflt (refine' ne_same_tuple ?N ?a ?u ?_; (case N => k_asm); (case a => k_mem); (case u => exact Nat.le_of_ble_eq_true rfl))))
local macro_rules | `(tactic| walk_at "last subscriptTail") => `(tactic| (k_here; (with_reducible show wpAny _ _ (subscriptTail _ (PySem.Expr.Slice _ _ none _) (Value.ref _) (Value.ref _)) _ _ _); k_dflt (refine' slice_any ?F ?N ?l ?p ?q ?e ?_ ?s ?t ?z; (case F => k_asm); (case N => k_asm); (case l => k_mem); (case p => kmk_part); (case q => kmk_part); (case e => first | exact (pick_from (by omega)).trans (congrArg List.toArray (by assumption)) | exact (pick_upto (by omega)).trans (congrArg List.toArray (by assumption))); (case s => with_unfolding_all rfl); (case t => kmk_pure); (case z => (first | assumption | omega | (simp only [List.length_cons, List.length_nil, List.length_append, List.length_take, List.length_drop]; omega)))); intro D' h' F' N' l1; (try k_lt l1); (try k_sweep)))
local macro_rules | `(tactic| walk_at "subscriptTail Name Slice ref ref") => `(tactic| (k_here; (with_reducible show wpAny _ _ (subscriptTail _ (PySem.Expr.Slice _ _ none _) (Value.ref _) (Value.ref _)) _ _ _); k_dflt (refine' slice_any ?F ?N ?l ?p ?q ?e ?_ ?s ?t ?z; (case F => k_asm); (case N => k_asm); (case l => k_mem); (case p => kmk_part); (case q => kmk_part); (case e => first | exact (pick_from (by omega)).trans (congrArg List.toArray (by assumption)) | exact (pick_upto (by omega)).trans (congrArg List.toArray (by assumption))); (case s => with_unfolding_all rfl); (case t => kmk_pure); (case z => (first | assumption | omega | (simp only [List.length_cons, List.length_nil, List.length_append, List.length_take, List.length_drop]; omega)))); intro D' h' F' N' l1; (try k_lt l1); (try k_sweep)))
section
variable {w : World} {E : Value → Shared → Prop} {Q : Flow → Shared → Prop} {s : Shared} {h₀ : Heap} {L fa : Addr} {cd : Value} {u : Str → Option Value}
  {p : Program} {loose : List Str} {mean : ExcName → Option Value} {mg mb : Str → Option Value} {tl : List (Addr × Obj)} {RW KD WT P D CX CU RS T1 T2 : Addr} {ls : List Lev} {cur wvs : List Value} {nR nK nW nX nC nS : Nat} {d : PD} {oCE : Obj} {ta td0 tp tb td tr a1 b1 b2 : Tok} {r dd bg : Int} {kd : Value} {bx nx : Option Value}
theorem deedAsked1 {TW : Addr} {ws : List Value} {a9 : Int} {t9 : Tok} {x9 : Value} {k9 : Nat} (B : Below callerA h₀ [] h₀) (X : (K w.params).In h₀) (T : Top p loose mean mg mb h₀) (F : Fr h₀ L s.heap (fun y => if y = Str.ofString "first" then some (Value.ref T1) else if y = Str.ofString "second" then some (Value.ref T2) else if y = Str.ofString "kind" then some kd else if y = Str.ofString "begin" then some (Value.int bg tb) else if y = Str.ofString "deed" then some (Value.int 9 td) else if y = Str.ofString "rest" then some (Value.int r tr) else if y = Str.ofString "rest" then bx else if y = Str.ofString "number" then nx else if y = Str.ofString "row" then some (Value.ref RW) else if y = Str.ofString "waiting" then some (Value.ref WT) else if y = Str.ofString "kinds" then some (Value.ref KD) else u y))
    (N : News h₀ L s.heap ((TW, ({ cls := .type "tuple", data := .seq #[.int a9 t9, x9] k9 } : Obj)) :: (T2, ({ cls := .type "tuple", data := .seq #[.int (r.fmod 50 + 1) b1, .int (r + 1) b2] 0 } : Obj)) :: (T1, ({ cls := .type "tuple", data := .seq #[.int (r.fmod 50) a1, .int r tr] 0 } : Obj)) :: (RW, listOf (rowOf ls cur).toArray nR) :: (KD, listOf #[.str (Str.ofString "a") ta, .str (Str.ofString "d") td0, .str (Str.ofString "p") tp] nK) :: (WT, listOf (Value.ref TW :: ws).toArray nW) :: (P, instObj 1367 D) :: (D, dictOf (d.es w) 13) :: (CX, listOf (ctxOf ls).toArray nX) :: (CU, listOf cur.toArray nC) :: (RS, listOf (Value.ref TW :: ws).toArray nS) :: (L + 1, oCE) :: tl)) (l1 : (@LT.lt Nat _ (RW) T1 ∧ @LT.lt Nat _ (KD) T1 ∧ @LT.lt Nat _ (WT) T1 ∧ @LT.lt Nat _ (P) T1 ∧ @LT.lt Nat _ (D) T1 ∧ @LT.lt Nat _ (CX) T1 ∧ @LT.lt Nat _ (CU) T1 ∧ @LT.lt Nat _ (RS) T1 ∧ @LT.lt Nat _ (L + 1) T1 ∧ AllLt T1 tl)) (l2 : @LT.lt Nat _ T1 T2 ∧ @LT.lt Nat _ (RW) T2 ∧ @LT.lt Nat _ (KD) T2 ∧ @LT.lt Nat _ (WT) T2 ∧ @LT.lt Nat _ (P) T2 ∧ @LT.lt Nat _ (D) T2 ∧ @LT.lt Nat _ (CX) T2 ∧ @LT.lt Nat _ (CU) T2 ∧ @LT.lt Nat _ (RS) T2 ∧ @LT.lt Nat _ (L + 1) T2 ∧ AllLt T2 tl)
    (hce : oCE.data = .cell (some (.ref P))) (hlen : (rowOf ls cur).length ≤ 100) (hwl : ws.length ≤ 100) (hcl : cur.length ≤ 100) (hr : 0 ≤ r) (hr2 : r < 10000) (hrs : d.results = .ref RS) (hx0 : (Value.ref TW :: ws)[(0 : Int).toNat]? = some (Value.ref TW)) (hd1 : (Value.ref TW :: ws).drop (1 : Int).toNat = ws) (oTW : Off TW [RW, KD, WT, P, D, CX, CU, RS, L + 1]) (nT1 : @LT.lt Nat _ TW T1) (nT2 : @LT.lt Nat _ TW T2)
    (oRS : Off RS [RW, KD, WT, P, D, CX, CU, L + 1]) (tRS : ∀ p ∈ tl, p.1 ≠ RS)
    (h : ∀ h' tk m' WT', Fr h₀ L h' m' → m' (Str.ofString "row") = some (.ref RW) → m' (Str.ofString "waiting") = some (.ref WT') → m' (Str.ofString "kinds") = some (.ref KD) → News h₀ L h' ((WT', listOf ws.toArray 0) :: (TW, ({ cls := .type "tuple", data := .seq #[.int a9 t9, x9] k9 } : Obj)) :: (RW, listOf (rowOf ls cur).toArray nR) :: (KD, listOf #[.str (Str.ofString "a") ta, .str (Str.ofString "d") td0, .str (Str.ofString "p") tp] nK) :: (P, instObj 1367 D) :: (D, dictOf (d.es w) 13) :: (CX, listOf (ctxOf ls).toArray nX) :: (CU, listOf cur.toArray nC) :: (RS, listOf ws.toArray (nS + 1)) :: (L + 1, oCE) :: tl) → (@Ne Nat KD WT' ∧ @Ne Nat WT WT' ∧ @Ne Nat CX WT' ∧ @Ne Nat CU WT' ∧ @Ne Nat RS WT' ∧ @Ne Nat RW WT') → (∀ p ∈ tl, p.1 ≠ WT') → Q .next { s with heap := h', toks := tk }) :
    wpAny (model PySem.Challenge.rw_ae5031_04.row.prog w) (callerA.deeper (envOfC (Str.ofString "law") lawScope L fa cd)) (exec chain (envOfC (Str.ofString "law") lawScope L fa cd)) (fun f s' => match f with | .next => wpAny (model PySem.Challenge.rw_ae5031_04.row.prog w) (callerA.deeper (envOfC (Str.ofString "law") lawScope L fa cd)) (execs [] (envOfC (Str.ofString "law") lawScope L fa cd)) Q E s' | f => Q f s') E s := by
  revert X
  k_fill
  intro X
  unfold chain
  k_steps
  refine' h _ _ _ _ ?zF ?zr ?zw ?zk ?zN ?f0 ?t0
  (case zF => assumption)
  (case zr => first | rfl | decide)
  (case zw => first | rfl | decide)
  (case zk => first | rfl | decide)
  (case zN => (refine news_sub (by assumption) ?_; (repeat' (first | exact fun p hp => hp | (refine sub_cons (by k_memK) ?_) | (refine sub_tail ?_)))))
  (case f0 => (refine ⟨?_, ?_, ?_, ?_, ?_, ?_⟩ <;> k_ne))
  (case t0 => k_all)
end
end Mine
end
section
theorem Mine.freshDasked2 : True := by
  run_tac (do PyProof.Rows.walkLines.set (0, {}); PyProof.Rows.walkHit.set {}; PyProof.Rows.walkTop.set false; PyProof.Rows.walkStart.set 0; PyProof.Rows.walkLate.set false)
  trivial
open PySem PySem.W PySem.Calls PyProof.Rows
set_option Elab.async false
set_option maxRecDepth 100000
set_option maxHeartbeats 400000
set_option linter.unusedVariables false
set_option linter.unusedSimpArgs false
namespace Mine
local macro_rules | `(tactic| walk_at "last subscriptTail") => `(tactic| (k_here; (with_reducible show wpAny _ _ (subscriptTail _ (PySem.Expr.Slice _ _ none _) (Value.ref _) (Value.ref _)) _ _ _); k_dflt (refine' slice_any ?F ?N ?l ?p ?q ?e ?_ ?s ?t ?z; (case F => k_asm); (case N => k_asm); (case l => k_mem); (case p => kmk_part); (case q => kmk_part); (case e => (first | exact pick_from (by omega) | exact pick_upto (by omega) | exact pick_neg (by first | omega | (refine Int.neg_neg_of_pos ?_; omega)))); (case s => with_unfolding_all rfl); (case t => kmk_pure); (case z => (first | assumption | omega | (simp only [List.length_cons, List.length_nil, List.length_append, List.length_take, List.length_drop]; omega)))); intro D' h' F' N' l1; (try k_lt l1); (try k_sweep)))
local macro_rules | `(tactic| walk_at "subscriptTail Name Slice ref ref") => `(tactic| (k_here; (with_reducible show wpAny _ _ (subscriptTail _ (PySem.Expr.Slice _ _ none _) (Value.ref _) (Value.ref _)) _ _ _); k_dflt (refine' slice_any ?F ?N ?l ?p ?q ?e ?_ ?s ?t ?z; (case F => k_asm); (case N => k_asm); (case l => k_mem); (case p => kmk_part); (case q => kmk_part); (case e => (first | exact pick_from (by omega) | exact pick_upto (by omega) | exact pick_neg (by first | omega | (refine Int.neg_neg_of_pos ?_; omega)))); (case s => with_unfolding_all rfl); (case t => kmk_pure); (case z => (first | assumption | omega | (simp only [List.length_cons, List.length_nil, List.length_append, List.length_take, List.length_drop]; omega)))); intro D' h' F' N' l1; (try k_lt l1); (try k_sweep)))
local macro_rules | `(tactic| walk_at "setItem ref") => `(tactic| (k_here; k_dflt (refine' setSlice_neg ?F ?N ?b ?ne ?U ?x ?z ?_; (case F => k_asm); (case N => k_asm); (case b => k_mem); (case ne => k_ne); (case U => k_upd); (case x => (first | omega | (refine Int.neg_neg_of_pos ?_; omega))); (case z => (first | assumption | omega | (simp only [List.length_cons, List.length_nil, List.length_append, List.length_take, List.length_drop]; omega)))); intro h' F' N'; (try k_sweep)))
local macro_rules | `(tactic| walk_at "call builtin:len") => `(tactic| (k_here; (with_reducible show wpAny _ _ (call (Value.builtin "len") [Value.ref _]) _ _ _); k_dflt (refine' len_any ?N ?m ?z ?_; (case N => k_asm); (case m => k_mem); (case z => (first | assumption | omega | (simp only [List.length_cons, List.length_nil, List.length_append, List.length_take, List.length_drop]; omega))))))
local macro_rules | `(tactic| walk_at "truthy ref") => `(tactic| (k_here; k_dflt (refine' truthy_any ?N ?m ?z ?_; (case N => k_asm); (case m => k_mem); (case z => (first | assumption | omega | (simp only [List.length_cons, List.length_nil, List.length_append, List.length_take, List.length_drop]; omega)))); (try simp only [List.isEmpty_cons, List.isEmpty_nil, Bool.not_false, Bool.not_true])))
local macro_rules | `(tactic| walk_at "call builtin:list.pop") => `(tactic| (k_here; k_dflt (first | (refine' pop_last ?F ?N ?U ?z ?_; (case F => k_asm); (case N => k_asm); (case U => k_upd); (case z => (first | assumption | omega | (simp only [List.length_cons, List.length_nil, List.length_append, List.length_take, List.length_drop]; omega)))) | (refine' pop_first ?F ?N ?U ?z ?_; (case F => k_asm); (case N => k_asm); (case U => k_upd); (case z => (first | assumption | omega | (simp only [List.length_cons, List.length_nil, List.length_append, List.length_take, List.length_drop]; omega))))); intro h' F' N'; (try k_sweep)))
local macro_rules | `(tactic| walk_at "pyReprObj str") => `(tactic| (refine pyReprObj_str (hx := ?hx) ?_; (case hx => (rw [PySem.sizeLine_eq]; omega))))
local macro_rules | `(tactic| walk_at "compareOp NotEq str str") => `(tactic| first | refine ne_strs_true (by assumption) ?_ | refine ne_strs_false ?_)
local macro_rules | `(tactic| walk_at "SrcLP") => `(tactic| (k_here; k_dflt (refine LCp.SrcLP.ledger (by rfl) (by k_asm) (by k_asm) (by k_mem) (by (simp only [List.size_toArray, PySem.sizeLine_eq]; omega)) ?_; intro g'; (rename Secs _ _ _ => hsec'); refine rest_snd (by rfl) (by rfl) (by decide) (.inr ⟨_, by k_mem, rfl, _, rfl⟩) _ _ 0 [] (hsec'.mono (fun p hp => (by simp only [List.mem_cons]; first | exact hp | exact .inr hp | exact .inr (.inr hp) | exact .inr (.inr (.inr hp)) | exact .inr (.inr (.inr (.inr hp))) | exact .inr (.inr (.inr (.inr (.inr hp))))))) (fun j v hj => by simpa using hj) ?_); intro D' h' tk' F' N' off'; (try simp only [LCg.Off1] at off')))
local macro_rules | `(tactic| walk_at "call builtin:len") => `(tactic| (k_here; (with_reducible show wpAny _ _ (call (Value.builtin "len") [Value.ref _]) _ _ _); k_dflt (refine' len_ba_K ?N ?m ?_; (case N => k_asm); (case m => k_mem))))
local macro_rules | `(tactic| walk_at "compareOp In int bytes") => `(tactic| (k_here; refine in_bytes_true (by decide +kernel) (by decide +kernel) (by decide +kernel) ?_))
local macro_rules | `(tactic| walk_at "truthy bytes") => `(tactic| (k_here; refine truthy_b0 ?_))
local macro_rules | `(tactic| walk_at "UnrEnd") => `(tactic| (k_here; k_dflt (refine UnrEnd.intro (by assumption) (by assumption) _ (fun p hp => hp) (my_off (by assumption)) ?_)))
local macro_rules | `(tactic| walk_at "exec While UnaryOp cons nil") => `(tactic| (k_here; k_dflt (refine whl_start 4 ?_)))
local macro_rules | `(tactic| walk_at "subscriptTail Name Name ref int") => `(tactic| (k_here; (with_reducible show wpAny _ _ (subscriptTail _ _ (Value.ref _) (Value.int _ _)) _ _ _); k_dflt (refine' item_any ?N ?m ?x ?a ?z ?s ?_; (case N => k_asm); (case m => k_mem); (case x => assumption); (case a => first | assumption | omega); (case z => (first | assumption | omega | (simp only [List.length_cons, List.length_nil, List.length_append, List.length_take, List.length_drop]; omega))); (case s => with_unfolding_all rfl))))
local macro_rules | `(tactic| walk_at "subscriptTail Name BinOp ref int") => `(tactic| (k_here; (with_reducible show wpAny _ _ (subscriptTail _ _ (Value.ref _) (Value.int _ _)) _ _ _); k_dflt (refine' item_any ?N ?m ?x ?a ?z ?s ?_; (case N => k_asm); (case m => k_mem); (case x => assumption); (case a => first | assumption | omega); (case z => (first | assumption | omega | (simp only [List.length_cons, List.length_nil, List.length_append, List.length_take, List.length_drop]; omega))); (case s => with_unfolding_all rfl))))
local macro_rules | `(tactic| k_all) => `(tactic| assumption)
local macro_rules | `(tactic| k_ne) => `(tactic| (refine neN ?_; (try dsimp only); first | (refine Off.l (by assumption) ?_; k_memK; done) | (refine Off.r (by assumption) ?_; k_memK; done) | fail))
local macro_rules | `(tactic| walk_at "call ref") => `(tactic| (k_here; (with_reducible show wpAny _ _ (call (Value.ref 1656) _ []) _ _ _); k_dflt (refine' asked2U ?B ?F ?X ?T ?N ?m1 ?m2 ?m3 ?c ?e ?_; (case B => assumption); (case F => k_asm); (case X => assumption); (case T => assumption); (case N => k_asm); (case m1 => k_mem); (case m2 => k_mem); (case c => assumption); (case m3 => k_mem); (case e => assumption)); intro h' tk' F' N'; (try dsimp only at N')))
local macro_rules | `(tactic| walk_at "last subscriptTail") => `(tactic| (k_here; (with_reducible show wpAny _ _ (subscriptTail _ (PySem.Expr.Slice _ _ none _) (Value.ref _) (Value.ref _)) _ _ _); k_dflt (refine' slice_any ?F ?N ?l ?p ?q ?e ?_ ?s ?t ?z; (case F => k_asm); (case N => k_asm); (case l => k_mem); (case p => kmk_part); (case q => kmk_part); (case e => first | exact (pick_from (by omega)).trans (congrArg List.toArray (by assumption)) | exact (pick_upto (by omega)).trans (congrArg List.toArray (by assumption))); (case s => with_unfolding_all rfl); (case t => kmk_pure); (case z => (first | assumption | omega | (simp only [List.length_cons, List.length_nil, List.length_append, List.length_take, List.length_drop]; omega)))); intro D' h' F' N' l1; (try k_lt l1); (try k_sweep)))
local macro_rules | `(tactic| walk_at "subscriptTail Name Slice ref ref") => `(tactic| (k_here; (with_reducible show wpAny _ _ (subscriptTail _ (PySem.Expr.Slice _ _ none _) (Value.ref _) (Value.ref _)) _ _ _); k_dflt (refine' slice_any ?F ?N ?l ?p ?q ?e ?_ ?s ?t ?z; (case F => k_asm); (case N => k_asm); (case l => k_mem); (case p => kmk_part); (case q => kmk_part); (case e => first | exact (pick_from (by omega)).trans (congrArg List.toArray (by assumption)) | exact (pick_upto (by omega)).trans (congrArg List.toArray (by assumption))); (case s => with_unfolding_all rfl); (case t => kmk_pure); (case z => (first | assumption | omega | (simp only [List.length_cons, List.length_nil, List.length_append, List.length_take, List.length_drop]; omega)))); intro D' h' F' N' l1; (try k_lt l1); (try k_sweep)))
section
variable {w : World} {E : Value → Shared → Prop} {Q : Flow → Shared → Prop} {s : Shared} {h₀ : Heap} {L fa : Addr} {cd : Value} {u : Str → Option Value}
  {p : Program} {loose : List Str} {mean : ExcName → Option Value} {mg mb : Str → Option Value} {tl : List (Addr × Obj)} {RW KD WT P D CX CU RS T1 T2 : Addr} {ls : List Lev} {cur wvs : List Value} {nR nK nW nX nC nS : Nat} {d : PD} {oCE : Obj} {ta td0 tp tb td tr a1 b1 b2 : Tok} {r dd bg : Int} {kd : Value} {bx nx : Option Value}
theorem deedAsked2 (B : Below callerA h₀ [] h₀) (X : (K w.params).In h₀) (T : Top p loose mean mg mb h₀) (F : Fr h₀ L s.heap (fun y => if y = Str.ofString "first" then some (Value.ref T1) else if y = Str.ofString "second" then some (Value.ref T2) else if y = Str.ofString "kind" then some kd else if y = Str.ofString "begin" then some (Value.int bg tb) else if y = Str.ofString "deed" then some (Value.int 9 td) else if y = Str.ofString "rest" then some (Value.int r tr) else if y = Str.ofString "rest" then bx else if y = Str.ofString "number" then nx else if y = Str.ofString "row" then some (Value.ref RW) else if y = Str.ofString "waiting" then some (Value.ref WT) else if y = Str.ofString "kinds" then some (Value.ref KD) else u y))
    (N : News h₀ L s.heap ((T2, ({ cls := .type "tuple", data := .seq #[.int (r.fmod 50 + 1) b1, .int (r + 1) b2] 0 } : Obj)) :: (T1, ({ cls := .type "tuple", data := .seq #[.int (r.fmod 50) a1, .int r tr] 0 } : Obj)) :: (RW, listOf (rowOf ls cur).toArray nR) :: (KD, listOf #[.str (Str.ofString "a") ta, .str (Str.ofString "d") td0, .str (Str.ofString "p") tp] nK) :: (WT, listOf #[] nW) :: (P, instObj 1367 D) :: (D, dictOf (d.es w) 13) :: (CX, listOf (ctxOf ls).toArray nX) :: (CU, listOf cur.toArray nC) :: (RS, listOf #[] nS) :: (L + 1, oCE) :: tl)) (l1 : (@LT.lt Nat _ (RW) T1 ∧ @LT.lt Nat _ (KD) T1 ∧ @LT.lt Nat _ (WT) T1 ∧ @LT.lt Nat _ (P) T1 ∧ @LT.lt Nat _ (D) T1 ∧ @LT.lt Nat _ (CX) T1 ∧ @LT.lt Nat _ (CU) T1 ∧ @LT.lt Nat _ (RS) T1 ∧ @LT.lt Nat _ (L + 1) T1 ∧ AllLt T1 tl)) (l2 : @LT.lt Nat _ T1 T2 ∧ @LT.lt Nat _ (RW) T2 ∧ @LT.lt Nat _ (KD) T2 ∧ @LT.lt Nat _ (WT) T2 ∧ @LT.lt Nat _ (P) T2 ∧ @LT.lt Nat _ (D) T2 ∧ @LT.lt Nat _ (CX) T2 ∧ @LT.lt Nat _ (CU) T2 ∧ @LT.lt Nat _ (RS) T2 ∧ @LT.lt Nat _ (L + 1) T2 ∧ AllLt T2 tl)
    (hce : oCE.data = .cell (some (.ref P))) (hlen : (rowOf ls cur).length ≤ 100) (hwl : wvs.length ≤ 100) (hcl : cur.length ≤ 100) (hr : 0 ≤ r) (hr2 : r < 10000) (hrs : d.results = .ref RS) (heof : d.eof = .bool true) (hd1 : ([] : List Value).drop (1 : Int).toNat = [])
    (h : ∀ h' tk m' WT', Fr h₀ L h' m' → m' (Str.ofString "row") = some (.ref RW) → m' (Str.ofString "waiting") = some (.ref WT') → m' (Str.ofString "kinds") = some (.ref KD) → News h₀ L h' ((WT', listOf #[] 0) :: (RW, listOf (rowOf ls cur).toArray nR) :: (KD, listOf #[.str (Str.ofString "a") ta, .str (Str.ofString "d") td0, .str (Str.ofString "p") tp] nK) :: (P, instObj 1367 D) :: (D, dictOf (d.es w) 13) :: (CX, listOf (ctxOf ls).toArray nX) :: (CU, listOf cur.toArray nC) :: (RS, listOf #[] nS) :: (L + 1, oCE) :: tl) → (@Ne Nat KD WT' ∧ @Ne Nat WT WT' ∧ @Ne Nat CX WT' ∧ @Ne Nat CU WT' ∧ @Ne Nat RS WT' ∧ @Ne Nat RW WT') → (∀ p ∈ tl, p.1 ≠ WT') → Q .next { s with heap := h', toks := tk }) :
    wpAny (model PySem.Challenge.rw_ae5031_04.row.prog w) (callerA.deeper (envOfC (Str.ofString "law") lawScope L fa cd)) (exec chain (envOfC (Str.ofString "law") lawScope L fa cd)) (fun f s' => match f with | .next => wpAny (model PySem.Challenge.rw_ae5031_04.row.prog w) (callerA.deeper (envOfC (Str.ofString "law") lawScope L fa cd)) (execs [] (envOfC (Str.ofString "law") lawScope L fa cd)) Q E s' | f => Q f s') E s := by
  revert X
  k_fill
  intro X
  unfold chain
  k_steps
  refine' h _ _ _ _ ?F ?r ?w ?k ?N ?f0 ?t0
  (case F => assumption)
  (case r => first | rfl | decide)
  (case w => first | rfl | decide)
  (case k => first | rfl | decide)
  (case N => (refine news_sub (by assumption) ?_; (repeat' (first | exact fun p hp => hp | (refine sub_cons (by k_memK) ?_) | (refine sub_tail ?_)))))
  (case f0 => (refine ⟨?_, ?_, ?_, ?_, ?_, ?_⟩ <;> k_ne))
  (case t0 => k_all)
end
end Mine
end
section
theorem Mine.freshDasked3 : True := by
  run_tac (do PyProof.Rows.walkLines.set (0, {}); PyProof.Rows.walkHit.set {}; PyProof.Rows.walkTop.set false; PyProof.Rows.walkStart.set 0; PyProof.Rows.walkLate.set false)
  trivial
open PySem PySem.W PySem.Calls PyProof.Rows
set_option Elab.async false
set_option maxRecDepth 100000
set_option maxHeartbeats 4000000
set_option linter.unusedVariables false
set_option linter.unusedSimpArgs false
namespace Mine
local macro_rules | `(tactic| walk_at "last subscriptTail") => `(tactic| (k_here; (with_reducible show wpAny _ _ (subscriptTail _ (PySem.Expr.Slice _ _ none _) (Value.ref _) (Value.ref _)) _ _ _); k_dflt (refine' slice_any ?F ?N ?l ?p ?q ?e ?_ ?s ?t ?z; (case F => k_asm); (case N => k_asm); (case l => k_mem); (case p => kmk_part); (case q => kmk_part); (case e => (first | exact pick_from (by omega) | exact pick_upto (by omega) | exact pick_neg (by first | omega | (refine Int.neg_neg_of_pos ?_; omega)))); (case s => with_unfolding_all rfl); (case t => kmk_pure); (case z => (first | assumption | omega | (simp only [List.length_cons, List.length_nil, List.length_append, List.length_take, List.length_drop]; omega)))); intro D' h' F' N' l1; (try k_lt l1); (try k_sweep)))
local macro_rules | `(tactic| walk_at "subscriptTail Name Slice ref ref") => `(tactic| (k_here; (with_reducible show wpAny _ _ (subscriptTail _ (PySem.Expr.Slice _ _ none _) (Value.ref _) (Value.ref _)) _ _ _); k_dflt (refine' slice_any ?F ?N ?l ?p ?q ?e ?_ ?s ?t ?z; (case F => k_asm); (case N => k_asm); (case l => k_mem); (case p => kmk_part); (case q => kmk_part); (case e => (first | exact pick_from (by omega) | exact pick_upto (by omega) | exact pick_neg (by first | omega | (refine Int.neg_neg_of_pos ?_; omega)))); (case s => with_unfolding_all rfl); (case t => kmk_pure); (case z => (first | assumption | omega | (simp only [List.length_cons, List.length_nil, List.length_append, List.length_take, List.length_drop]; omega)))); intro D' h' F' N' l1; (try k_lt l1); (try k_sweep)))
local macro_rules | `(tactic| walk_at "setItem ref") => `(tactic| (k_here; k_dflt (refine' setSlice_neg ?F ?N ?b ?ne ?U ?x ?z ?_; (case F => k_asm); (case N => k_asm); (case b => k_mem); (case ne => k_ne); (case U => k_upd); (case x => (first | omega | (refine Int.neg_neg_of_pos ?_; omega))); (case z => (first | assumption | omega | (simp only [List.length_cons, List.length_nil, List.length_append, List.length_take, List.length_drop]; omega)))); intro h' F' N'; (try k_sweep)))
local macro_rules | `(tactic| walk_at "call builtin:len") => `(tactic| (k_here; (with_reducible show wpAny _ _ (call (Value.builtin "len") [Value.ref _]) _ _ _); k_dflt (refine' len_any ?N ?m ?z ?_; (case N => k_asm); (case m => k_mem); (case z => (first | assumption | omega | (simp only [List.length_cons, List.length_nil, List.length_append, List.length_take, List.length_drop]; omega))))))
local macro_rules | `(tactic| walk_at "truthy ref") => `(tactic| (k_here; k_dflt (refine' truthy_any ?N ?m ?z ?_; (case N => k_asm); (case m => k_mem); (case z => (first | assumption | omega | (simp only [List.length_cons, List.length_nil, List.length_append, List.length_take, List.length_drop]; omega)))); (try simp only [List.isEmpty_cons, List.isEmpty_nil, Bool.not_false, Bool.not_true])))
local macro_rules | `(tactic| walk_at "call builtin:list.pop") => `(tactic| (k_here; k_dflt (first | (refine' pop_last ?F ?N ?U ?z ?_; (case F => k_asm); (case N => k_asm); (case U => k_upd); (case z => (first | assumption | omega | (simp only [List.length_cons, List.length_nil, List.length_append, List.length_take, List.length_drop]; omega)))) | (refine' pop_first ?F ?N ?U ?z ?_; (case F => k_asm); (case N => k_asm); (case U => k_upd); (case z => (first | assumption | omega | (simp only [List.length_cons, List.length_nil, List.length_append, List.length_take, List.length_drop]; omega))))); intro h' F' N'; (try k_sweep)))
local macro_rules | `(tactic| walk_at "pyReprObj str") => `(tactic| (refine pyReprObj_str (hx := ?hx) ?_; (case hx => (rw [PySem.sizeLine_eq]; omega))))
local macro_rules | `(tactic| walk_at "compareOp NotEq str str") => `(tactic| first | refine ne_strs_true (by assumption) ?_ | refine ne_strs_false ?_)
local macro_rules | `(tactic| walk_at "SrcLP") => `(tactic| (k_here; k_dflt (refine LCp.SrcLP.ledger (by rfl) (by k_asm) (by k_asm) (by k_mem) (by (simp only [List.size_toArray, PySem.sizeLine_eq]; omega)) ?_; intro g'; (rename Secs _ _ _ => hsec'); refine rest_snd (by rfl) (by rfl) (by decide) (.inr ⟨_, by k_mem, rfl, _, rfl⟩) _ _ 0 [] (hsec'.mono (fun p hp => (by simp only [List.mem_cons]; first | exact hp | exact .inr hp | exact .inr (.inr hp) | exact .inr (.inr (.inr hp)) | exact .inr (.inr (.inr (.inr hp))) | exact .inr (.inr (.inr (.inr (.inr hp))))))) (fun j v hj => by simpa using hj) ?_); intro D' h' tk' F' N' off'; (try simp only [LCg.Off1] at off')))
local macro_rules | `(tactic| walk_at "call builtin:len") => `(tactic| (k_here; (with_reducible show wpAny _ _ (call (Value.builtin "len") [Value.ref _]) _ _ _); k_dflt (refine' len_ba_K ?N ?m ?_; (case N => k_asm); (case m => k_mem))))
local macro_rules | `(tactic| walk_at "compareOp In int bytes") => `(tactic| (k_here; refine in_bytes_true (by decide +kernel) (by decide +kernel) (by decide +kernel) ?_))
local macro_rules | `(tactic| walk_at "truthy bytes") => `(tactic| (k_here; refine truthy_b0 ?_))
local macro_rules | `(tactic| walk_at "UnrEnd") => `(tactic| (k_here; k_dflt (refine UnrEnd.intro (by assumption) (by assumption) _ (fun p hp => hp) (my_off (by assumption)) ?_)))
local macro_rules | `(tactic| walk_at "exec While UnaryOp cons nil") => `(tactic| (k_here; k_dflt (refine whl_start 4 ?_)))
local macro_rules | `(tactic| walk_at "subscriptTail Name Name ref int") => `(tactic| (k_here; (with_reducible show wpAny _ _ (subscriptTail _ _ (Value.ref _) (Value.int _ _)) _ _ _); k_dflt (refine' item_any ?N ?m ?x ?a ?z ?s ?_; (case N => k_asm); (case m => k_mem); (case x => assumption); (case a => first | assumption | omega); (case z => (first | assumption | omega | (simp only [List.length_cons, List.length_nil, List.length_append, List.length_take, List.length_drop]; omega))); (case s => with_unfolding_all rfl))))
local macro_rules | `(tactic| walk_at "subscriptTail Name BinOp ref int") => `(tactic| (k_here; (with_reducible show wpAny _ _ (subscriptTail _ _ (Value.ref _) (Value.int _ _)) _ _ _); k_dflt (refine' item_any ?N ?m ?x ?a ?z ?s ?_; (case N => k_asm); (case m => k_mem); (case x => assumption); (case a => first | assumption | omega); (case z => (first | assumption | omega | (simp only [List.length_cons, List.length_nil, List.length_append, List.length_take, List.length_drop]; omega))); (case s => with_unfolding_all rfl))))
local macro_rules | `(tactic| k_all) => `(tactic| assumption)
local macro_rules | `(tactic| k_ne) => `(tactic| (refine neN ?_; (try dsimp only); first | (refine Off.l (by assumption) ?_; k_memK; done) | (refine Off.r (by assumption) ?_; k_memK; done) | fail))
local macro_rules | `(tactic| walk_at "call ref") => `(tactic| (k_here; (with_reducible show wpAny _ _ (call (Value.ref 1656) _ []) _ _ _); k_dflt (refine' asked3U ?zzB ?zzF ?zzX ?zzT ?zzN ?zzm1 ?zzmRS ?zzmTK ?zzmPM ?zzmBA ?zzmFP ?zzmFD ?zzU ?zzc ?zze ?zztk ?zzfp ?zzbf ?zzcp ?zzp1 ?zzn ?_; (case zzB => assumption); (case zzF => k_asm); (case zzX => assumption); (case zzT => assumption); (case zzN => k_asm); (case zzm1 => k_mem); (case zzU => k_updF); (case zzc => assumption); (case zze => assumption); (case zztk => assumption); (case zzfp => assumption); (case zzbf => assumption); (case zzcp => assumption); (case zzp1 => assumption); (case zzmRS => k_mem); (case zzmTK => k_mem); (case zzmPM => k_mem); (case zzmFP => k_mem); (case zzmFD => k_mem); (case zzmBA => k_mem); (case zzn => k_ne)); intro h' tk' vb vf vc F' N'; (try dsimp only at N')))
local macro_rules | `(tactic| walk_at "last subscriptTail") => `(tactic| (k_here; (with_reducible show wpAny _ _ (subscriptTail _ (PySem.Expr.Slice _ _ none _) (Value.ref _) (Value.ref _)) _ _ _); k_dflt (refine' slice_any ?F ?N ?l ?p ?q ?e ?_ ?s ?t ?z; (case F => k_asm); (case N => k_asm); (case l => k_mem); (case p => kmk_part); (case q => kmk_part); (case e => first | exact (pick_from (by omega)).trans (congrArg List.toArray (by assumption)) | exact (pick_upto (by omega)).trans (congrArg List.toArray (by assumption))); (case s => with_unfolding_all rfl); (case t => kmk_pure); (case z => (first | assumption | omega | (simp only [List.length_cons, List.length_nil, List.length_append, List.length_take, List.length_drop]; omega)))); intro D' h' F' N' l1; (try k_lt l1); (try k_sweep)))
local macro_rules | `(tactic| walk_at "subscriptTail Name Slice ref ref") => `(tactic| (k_here; (with_reducible show wpAny _ _ (subscriptTail _ (PySem.Expr.Slice _ _ none _) (Value.ref _) (Value.ref _)) _ _ _); k_dflt (refine' slice_any ?F ?N ?l ?p ?q ?e ?_ ?s ?t ?z; (case F => k_asm); (case N => k_asm); (case l => k_mem); (case p => kmk_part); (case q => kmk_part); (case e => first | exact (pick_from (by omega)).trans (congrArg List.toArray (by assumption)) | exact (pick_upto (by omega)).trans (congrArg List.toArray (by assumption))); (case s => with_unfolding_all rfl); (case t => kmk_pure); (case z => (first | assumption | omega | (simp only [List.length_cons, List.length_nil, List.length_append, List.length_take, List.length_drop]; omega)))); intro D' h' F' N' l1; (try k_lt l1); (try k_sweep)))
section
variable {w : World} {E : Value → Shared → Prop} {Q : Flow → Shared → Prop} {s : Shared} {h₀ : Heap} {L fa : Addr} {cd : Value} {u : Str → Option Value}
  {p : Program} {loose : List Str} {mean : ExcName → Option Value} {mg mb : Str → Option Value} {tl : List (Addr × Obj)} {RW KD WT P D CX CU RS T1 T2 : Addr} {ls : List Lev} {cur wvs : List Value} {nR nK nW nX nC nS : Nat} {d : PD} {oCE : Obj} {ta td0 tp tb td tr a1 b1 b2 : Tok} {r dd bg : Int} {kd : Value} {bx nx : Option Value}
theorem deedAsked3 {TK PM BA FP FD : Addr} {nT : Nat} {u1 u2 u3 ub uc : Tok} (B : Below callerA h₀ [] h₀) (X : (K w.params).In h₀) (T : Top p loose mean mg mb h₀) (F : Fr h₀ L s.heap (fun y => if y = Str.ofString "first" then some (Value.ref T1) else if y = Str.ofString "second" then some (Value.ref T2) else if y = Str.ofString "kind" then some kd else if y = Str.ofString "begin" then some (Value.int bg tb) else if y = Str.ofString "deed" then some (Value.int 9 td) else if y = Str.ofString "rest" then some (Value.int r tr) else if y = Str.ofString "rest" then bx else if y = Str.ofString "number" then nx else if y = Str.ofString "row" then some (Value.ref RW) else if y = Str.ofString "waiting" then some (Value.ref WT) else if y = Str.ofString "kinds" then some (Value.ref KD) else u y))
    (N : News h₀ L s.heap ((TK, listOf #[] nT) :: (PM, methodObj (.ref 1186) (.ref P)) :: (BA, ({ cls := .type "bytearray", data := .bytearray #[] 0 } : Obj)) :: (FP, instObj 874 FD) :: (FD, dictOf [ent w "_BytesIO__buf" u1 (.ref BA), ent w "_BytesIO__pos" u2 (.int 0 u3)] 2) :: (T2, ({ cls := .type "tuple", data := .seq #[.int (r.fmod 50 + 1) b1, .int (r + 1) b2] 0 } : Obj)) :: (T1, ({ cls := .type "tuple", data := .seq #[.int (r.fmod 50) a1, .int r tr] 0 } : Obj)) :: (RW, listOf (rowOf ls cur).toArray nR) :: (KD, listOf #[.str (Str.ofString "a") ta, .str (Str.ofString "d") td0, .str (Str.ofString "p") tp] nK) :: (WT, listOf #[] nW) :: (P, instObj 1367 D) :: (D, dictOf (d.es w) 13) :: (CX, listOf (ctxOf ls).toArray nX) :: (CU, listOf cur.toArray nC) :: (RS, listOf #[] nS) :: (L + 1, oCE) :: tl)) (l1 : (@LT.lt Nat _ (RW) T1 ∧ @LT.lt Nat _ (KD) T1 ∧ @LT.lt Nat _ (WT) T1 ∧ @LT.lt Nat _ (P) T1 ∧ @LT.lt Nat _ (D) T1 ∧ @LT.lt Nat _ (CX) T1 ∧ @LT.lt Nat _ (CU) T1 ∧ @LT.lt Nat _ (RS) T1 ∧ @LT.lt Nat _ (L + 1) T1 ∧ AllLt T1 tl)) (l2 : @LT.lt Nat _ T1 T2 ∧ @LT.lt Nat _ (RW) T2 ∧ @LT.lt Nat _ (KD) T2 ∧ @LT.lt Nat _ (WT) T2 ∧ @LT.lt Nat _ (P) T2 ∧ @LT.lt Nat _ (D) T2 ∧ @LT.lt Nat _ (CX) T2 ∧ @LT.lt Nat _ (CU) T2 ∧ @LT.lt Nat _ (RS) T2 ∧ @LT.lt Nat _ (L + 1) T2 ∧ AllLt T2 tl)
    (hce : oCE.data = .cell (some (.ref P))) (hlen : (rowOf ls cur).length ≤ 100) (hwl : wvs.length ≤ 100) (hcl : cur.length ≤ 100) (hr : 0 ≤ r) (hr2 : r < 10000) (hrs : d.results = .ref RS) (heof : d.eof = .bool false) (htk : d.tokens = .ref TK) (hfp : d.fp = .ref FP) (hbuf : d.buf = .bytes #[] ub) (hcp : d.charpos = .int 0 uc) (hp1 : d.parse1 = .ref PM) (hd1 : ([] : List Value).drop (1 : Int).toNat = []) (oTK : Off TK [D, RS]) (oPM : Off PM [D]) (oBA : Off BA [D]) (oFP : Off FP [D]) (oFD : Off FD [D])
    (oD : Off D [RW, KD, WT, P, CX, CU, RS, L + 1]) (tD : ∀ p ∈ tl, p.1 ≠ D)
    (h : ∀ h' tk m' WT' vb vf vc, Fr h₀ L h' m' → m' (Str.ofString "row") = some (.ref RW) → m' (Str.ofString "waiting") = some (.ref WT') → m' (Str.ofString "kinds") = some (.ref KD) → News h₀ L h' ((WT', listOf #[] 0) :: (RW, listOf (rowOf ls cur).toArray nR) :: (KD, listOf #[.str (Str.ofString "a") ta, .str (Str.ofString "d") td0, .str (Str.ofString "p") tp] nK) :: (P, instObj 1367 D) :: (D, dictOf (PD.es w { d with eof := .bool true, bufpos := vb, buf := vf, charpos := vc }) 13) :: (CX, listOf (ctxOf ls).toArray nX) :: (CU, listOf cur.toArray nC) :: (RS, listOf #[] nS) :: (L + 1, oCE) :: tl) → (@Ne Nat KD WT' ∧ @Ne Nat WT WT' ∧ @Ne Nat CX WT' ∧ @Ne Nat CU WT' ∧ @Ne Nat RS WT' ∧ @Ne Nat RW WT') → (∀ p ∈ tl, p.1 ≠ WT') → Q .next { s with heap := h', toks := tk }) :
    wpAny (model PySem.Challenge.rw_ae5031_04.row.prog w) (callerA.deeper (envOfC (Str.ofString "law") lawScope L fa cd)) (exec chain (envOfC (Str.ofString "law") lawScope L fa cd)) (fun f s' => match f with | .next => wpAny (model PySem.Challenge.rw_ae5031_04.row.prog w) (callerA.deeper (envOfC (Str.ofString "law") lawScope L fa cd)) (execs [] (envOfC (Str.ofString "law") lawScope L fa cd)) Q E s' | f => Q f s') E s := by
  revert X
  k_fill
  intro X
  unfold chain
  k_steps
  refine' h _ _ _ _ _ _ _ ?zF ?zr ?zw ?zk ?zN ?f0 ?t0
  (case zF => assumption)
  (case zr => first | rfl | decide)
  (case zw => first | rfl | decide)
  (case zk => first | rfl | decide)
  (case zN => (refine news_sub (by assumption) ?_; (repeat' (first | exact fun p hp => hp | (refine sub_cons (by k_memK) ?_) | (refine sub_tail ?_)))))
  (case f0 => (refine ⟨?_, ?_, ?_, ?_, ?_, ?_⟩ <;> k_ne))
  (case t0 => k_all)
end
end Mine
end
section
theorem Mine.freshDstart : True := by
  run_tac (do PyProof.Rows.walkLines.set (0, {}); PyProof.Rows.walkHit.set {}; PyProof.Rows.walkTop.set false; PyProof.Rows.walkStart.set 0; PyProof.Rows.walkLate.set false)
  trivial
open PySem PySem.W PySem.Calls PyProof.Rows
set_option Elab.async false
set_option maxRecDepth 100000
set_option maxHeartbeats 4000000
set_option linter.unusedVariables false
set_option linter.unusedSimpArgs false
namespace Mine
local macro_rules | `(tactic| walk_at "last subscriptTail") => `(tactic| (k_here; (with_reducible show wpAny _ _ (subscriptTail _ (PySem.Expr.Slice _ _ none _) (Value.ref _) (Value.ref _)) _ _ _); k_dflt (refine' slice_any ?F ?N ?l ?p ?q ?e ?_ ?s ?t ?z; (case F => k_asm); (case N => k_asm); (case l => k_mem); (case p => kmk_part); (case q => kmk_part); (case e => (first | exact pick_from (by omega) | exact pick_upto (by omega) | exact pick_neg (by first | omega | (refine Int.neg_neg_of_pos ?_; omega)))); (case s => with_unfolding_all rfl); (case t => kmk_pure); (case z => (first | assumption | omega | (simp only [List.length_cons, List.length_nil, List.length_append, List.length_take, List.length_drop]; omega)))); intro D' h' F' N' l1; (try k_lt l1); (try k_sweep)))
local macro_rules | `(tactic| walk_at "subscriptTail Name Slice ref ref") => `(tactic| (k_here; (with_reducible show wpAny _ _ (subscriptTail _ (PySem.Expr.Slice _ _ none _) (Value.ref _) (Value.ref _)) _ _ _); k_dflt (refine' slice_any ?F ?N ?l ?p ?q ?e ?_ ?s ?t ?z; (case F => k_asm); (case N => k_asm); (case l => k_mem); (case p => kmk_part); (case q => kmk_part); (case e => (first | exact pick_from (by omega) | exact pick_upto (by omega) | exact pick_neg (by first | omega | (refine Int.neg_neg_of_pos ?_; omega)))); (case s => with_unfolding_all rfl); (case t => kmk_pure); (case z => (first | assumption | omega | (simp only [List.length_cons, List.length_nil, List.length_append, List.length_take, List.length_drop]; omega)))); intro D' h' F' N' l1; (try k_lt l1); (try k_sweep)))
local macro_rules | `(tactic| walk_at "setItem ref") => `(tactic| (k_here; k_dflt (refine' setSlice_neg ?F ?N ?b ?ne ?U ?x ?z ?_; (case F => k_asm); (case N => k_asm); (case b => k_mem); (case ne => k_ne); (case U => k_upd); (case x => (first | omega | (refine Int.neg_neg_of_pos ?_; omega))); (case z => (first | assumption | omega | (simp only [List.length_cons, List.length_nil, List.length_append, List.length_take, List.length_drop]; omega)))); intro h' F' N'; (try k_sweep)))
local macro_rules | `(tactic| walk_at "call builtin:len") => `(tactic| (k_here; (with_reducible show wpAny _ _ (call (Value.builtin "len") [Value.ref _]) _ _ _); k_dflt (refine' len_any ?N ?m ?z ?_; (case N => k_asm); (case m => k_mem); (case z => (first | assumption | omega | (simp only [List.length_cons, List.length_nil, List.length_append, List.length_take, List.length_drop]; omega))))))
local macro_rules | `(tactic| walk_at "truthy ref") => `(tactic| (k_here; k_dflt (refine' truthy_any ?N ?m ?z ?_; (case N => k_asm); (case m => k_mem); (case z => (first | assumption | omega | (simp only [List.length_cons, List.length_nil, List.length_append, List.length_take, List.length_drop]; omega)))); (try simp only [List.isEmpty_cons, List.isEmpty_nil, Bool.not_false, Bool.not_true])))
local macro_rules | `(tactic| walk_at "call builtin:list.pop") => `(tactic| (k_here; k_dflt (first | (refine' pop_last ?F ?N ?U ?z ?_; (case F => k_asm); (case N => k_asm); (case U => k_upd); (case z => (first | assumption | omega | (simp only [List.length_cons, List.length_nil, List.length_append, List.length_take, List.length_drop]; omega)))) | (refine' pop_first ?F ?N ?U ?z ?_; (case F => k_asm); (case N => k_asm); (case U => k_upd); (case z => (first | assumption | omega | (simp only [List.length_cons, List.length_nil, List.length_append, List.length_take, List.length_drop]; omega))))); intro h' F' N'; (try k_sweep)))
local macro_rules | `(tactic| walk_at "pyReprObj str") => `(tactic| (refine pyReprObj_str (hx := ?hx) ?_; (case hx => (rw [PySem.sizeLine_eq]; omega))))
local macro_rules | `(tactic| walk_at "compareOp NotEq str str") => `(tactic| first | refine ne_strs_true (by assumption) ?_ | refine ne_strs_false ?_)
local macro_rules | `(tactic| walk_at "SrcLP") => `(tactic| (k_here; k_dflt (refine LCp.SrcLP.ledger (by rfl) (by k_asm) (by k_asm) (by k_mem) (by (simp only [List.size_toArray, PySem.sizeLine_eq]; omega)) ?_; intro g'; (rename Secs _ _ _ => hsec'); refine rest_snd (by rfl) (by rfl) (by decide) (.inr ⟨_, by k_mem, rfl, _, rfl⟩) _ _ 0 [] (hsec'.mono (fun p hp => (by simp only [List.mem_cons]; first | exact hp | exact .inr hp | exact .inr (.inr hp) | exact .inr (.inr (.inr hp)) | exact .inr (.inr (.inr (.inr hp))) | exact .inr (.inr (.inr (.inr (.inr hp))))))) (fun j v hj => by simpa using hj) ?_); intro D' h' tk' F' N' off'; (try simp only [LCg.Off1] at off')))
local macro_rules | `(tactic| walk_at "call builtin:len") => `(tactic| (k_here; (with_reducible show wpAny _ _ (call (Value.builtin "len") [Value.ref _]) _ _ _); k_dflt (refine' len_ba_K ?N ?m ?_; (case N => k_asm); (case m => k_mem))))
local macro_rules | `(tactic| walk_at "compareOp In int bytes") => `(tactic| (k_here; refine in_bytes_true (by decide +kernel) (by decide +kernel) (by decide +kernel) ?_))
local macro_rules | `(tactic| walk_at "truthy bytes") => `(tactic| (k_here; refine truthy_b0 ?_))
local macro_rules | `(tactic| walk_at "UnrEnd") => `(tactic| (k_here; k_dflt (refine UnrEnd.intro (by assumption) (by assumption) _ (fun p hp => hp) (my_off (by assumption)) ?_)))
local macro_rules | `(tactic| walk_at "exec While UnaryOp cons nil") => `(tactic| (k_here; k_dflt (refine whl_start 4 ?_)))
local macro_rules | `(tactic| walk_at "subscriptTail Name Name ref int") => `(tactic| (k_here; (with_reducible show wpAny _ _ (subscriptTail _ _ (Value.ref _) (Value.int _ _)) _ _ _); k_dflt (refine' item_any ?N ?m ?x ?a ?z ?s ?_; (case N => k_asm); (case m => k_mem); (case x => assumption); (case a => first | assumption | omega); (case z => (first | assumption | omega | (simp only [List.length_cons, List.length_nil, List.length_append, List.length_take, List.length_drop]; omega))); (case s => with_unfolding_all rfl))))
local macro_rules | `(tactic| walk_at "subscriptTail Name BinOp ref int") => `(tactic| (k_here; (with_reducible show wpAny _ _ (subscriptTail _ _ (Value.ref _) (Value.int _ _)) _ _ _); k_dflt (refine' item_any ?N ?m ?x ?a ?z ?s ?_; (case N => k_asm); (case m => k_mem); (case x => assumption); (case a => first | assumption | omega); (case z => (first | assumption | omega | (simp only [List.length_cons, List.length_nil, List.length_append, List.length_take, List.length_drop]; omega))); (case s => with_unfolding_all rfl))))
local macro_rules | `(tactic| k_all) => `(tactic| assumption)
local macro_rules | `(tactic| k_ne) => `(tactic| (refine neN ?_; (try dsimp only); first | (refine Off.l (by assumption) ?_; k_memK; done) | (refine Off.r (by assumption) ?_; k_memK; done) | fail))
local macro_rules | `(tactic| walk_at "call ref") => `(tactic| (k_here; (with_reducible show wpAny _ _ (call (Value.ref 1347) [Value.ref _, Value.int _ _, Value.str _ _] []) _ _ _); k_dflt (refine' startU ?zzB ?zzF ?zzX ?zzT ?zzN ?zzm1 ?zzU ?zzU2 ?zzc ?zzct ?zzcu ?zzz ?_; (case zzB => assumption); (case zzF => k_asm); (case zzX => assumption); (case zzT => assumption); (case zzN => k_asm); (case zzm1 => k_mem); (case zzc => assumption); (case zzU => k_updF); (case zzU2 => (intro o9; k_updF)); (case zzct => assumption); (case zzcu => assumption); (case zzz => (first | assumption | omega | (simp only [List.length_cons, List.length_nil, List.length_append, List.length_take, List.length_drop]; omega)))); intro h' tk' A2 A1 F' N' l1 l1b l2; (try k_lt l1); (try k_lt l1b); (replace l2 := ltN l2); (try dsimp only at N')))
local macro_rules | `(tactic| walk_at "binaryOp Add ref ref") => `(tactic| (k_here; (with_reducible show wpAny _ _ (binaryOp _ (Value.ref _) (Value.ref _)) _ _ _); k_dflt (refine' add_any ?F ?N ?a ?b ?z ?_; (case F => k_asm); (case N => k_asm); (case a => k_mem); (case b => k_mem); (case z => (first | assumption | omega | (simp only [List.length_cons, List.length_nil, List.length_append, List.length_take, List.length_drop]; omega)))); intro D' h' F' N' l1; (try k_lt l1); (try k_sweep)))
section
variable {w : World} {E : Value → Shared → Prop} {Q : Flow → Shared → Prop} {s : Shared} {h₀ : Heap} {L fa : Addr} {cd : Value} {u : Str → Option Value}
  {p : Program} {loose : List Str} {mean : ExcName → Option Value} {mg mb : Str → Option Value} {tl : List (Addr × Obj)} {RW KD WT P D CX CU RS T1 T2 : Addr} {ls : List Lev} {cur wvs : List Value} {nR nK nW nX nC nS : Nat} {d : PD} {oCE : Obj} {ta td0 tp tb td tr a1 b1 b2 : Tok} {r dd bg : Int} {kd : Value} {bx nx : Option Value}
theorem deedStart {k : Str} {tk1 : Tok} (B : Below callerA h₀ [] h₀) (X : (K w.params).In h₀) (T : Top p loose mean mg mb h₀) (F : Fr h₀ L s.heap (fun y => if y = Str.ofString "first" then some (Value.ref T1) else if y = Str.ofString "second" then some (Value.ref T2) else if y = Str.ofString "kind" then some (Value.str k tk1) else if y = Str.ofString "begin" then some (Value.int bg tb) else if y = Str.ofString "deed" then some (Value.int 3 td) else if y = Str.ofString "rest" then some (Value.int r tr) else if y = Str.ofString "rest" then bx else if y = Str.ofString "number" then nx else if y = Str.ofString "row" then some (Value.ref RW) else if y = Str.ofString "waiting" then some (Value.ref WT) else if y = Str.ofString "kinds" then some (Value.ref KD) else u y))
    (N : News h₀ L s.heap ((T2, ({ cls := .type "tuple", data := .seq #[.int (r.fmod 50 + 1) b1, .int (r + 1) b2] 0 } : Obj)) :: (T1, ({ cls := .type "tuple", data := .seq #[.int (r.fmod 50) a1, .int r tr] 0 } : Obj)) :: (RW, listOf (rowOf ls cur).toArray nR) :: (KD, listOf #[.str (Str.ofString "a") ta, .str (Str.ofString "d") td0, .str (Str.ofString "p") tp] nK) :: (WT, listOf wvs.toArray nW) :: (P, instObj 1367 D) :: (D, dictOf (d.es w) 13) :: (CX, listOf (ctxOf ls).toArray nX) :: (CU, listOf cur.toArray nC) :: (RS, listOf wvs.toArray nS) :: (L + 1, oCE) :: tl)) (l1 : (@LT.lt Nat _ (RW) T1 ∧ @LT.lt Nat _ (KD) T1 ∧ @LT.lt Nat _ (WT) T1 ∧ @LT.lt Nat _ (P) T1 ∧ @LT.lt Nat _ (D) T1 ∧ @LT.lt Nat _ (CX) T1 ∧ @LT.lt Nat _ (CU) T1 ∧ @LT.lt Nat _ (RS) T1 ∧ @LT.lt Nat _ (L + 1) T1 ∧ AllLt T1 tl)) (l2 : @LT.lt Nat _ T1 T2 ∧ @LT.lt Nat _ (RW) T2 ∧ @LT.lt Nat _ (KD) T2 ∧ @LT.lt Nat _ (WT) T2 ∧ @LT.lt Nat _ (P) T2 ∧ @LT.lt Nat _ (D) T2 ∧ @LT.lt Nat _ (CX) T2 ∧ @LT.lt Nat _ (CU) T2 ∧ @LT.lt Nat _ (RS) T2 ∧ @LT.lt Nat _ (L + 1) T2 ∧ AllLt T2 tl)
    (hce : oCE.data = .cell (some (.ref P))) (hlen : (rowOf ls cur).length ≤ 100) (hwl : wvs.length ≤ 100) (hcl : cur.length ≤ 100) (hr : 0 ≤ r) (hr2 : r < 10000) (hcx : d.context = .ref CX) (hct : d.curtype = .none ∨ ∃ k t, d.curtype = .str k t) (hcu : d.curstack = .ref CU) (hxl : (ctxOf ls).length ≤ 100)
    (oD : Off D [RW, KD, WT, P, CX, CU, RS, L + 1]) (tD : ∀ p ∈ tl, p.1 ≠ D) (oCX : Off CX [RW, KD, WT, P, D, CU, RS, L + 1]) (tCX : ∀ p ∈ tl, p.1 ≠ CX)
    (h : ∀ h' tk m' RW' M A2 A1 tm tq, Fr h₀ L h' m' → m' (Str.ofString "row") = some (.ref RW') → m' (Str.ofString "waiting") = some (.ref WT) → m' (Str.ofString "kinds") = some (.ref KD) → News h₀ L h' ((RW', listOf (rowOf ls cur ++ [Value.ref M]).toArray 0) :: (M, ({ cls := .type "tuple", data := .seq #[Value.none, .int (r.fmod 50) tm, .str k tk1] 0 } : Obj)) :: (A2, listOf #[] 0) :: (A1, ({ cls := .type "tuple", data := .seq #[Value.int (r.fmod 50) tq, d.curtype, Value.ref CU] 0 } : Obj)) :: (KD, listOf #[.str (Str.ofString "a") ta, .str (Str.ofString "d") td0, .str (Str.ofString "p") tp] nK) :: (WT, listOf wvs.toArray nW) :: (P, instObj 1367 D) :: (D, dictOf (PD.es w { d with curtype := Value.str k tk1, curstack := .ref A2 }) 13) :: (CX, listOf ((ctxOf ls).toArray.push (Value.ref A1)) (nX + 1)) :: (CU, listOf cur.toArray nC) :: (RS, listOf wvs.toArray nS) :: (L + 1, oCE) :: tl) → (@Ne Nat KD RW' ∧ @Ne Nat WT RW' ∧ @Ne Nat CX RW' ∧ @Ne Nat CU RW' ∧ @Ne Nat RS RW' ∧ @Ne Nat RW RW' ∧ @Ne Nat A2 RW') → (∀ p ∈ tl, p.1 ≠ RW') → (@Ne Nat KD A2 ∧ @Ne Nat WT A2 ∧ @Ne Nat CX A2 ∧ @Ne Nat CU A2 ∧ @Ne Nat RS A2 ∧ @Ne Nat RW A2) → (∀ p ∈ tl, p.1 ≠ A2) → (∀ p ∈ tl, p.1 ≠ M) → (∀ p ∈ tl, p.1 ≠ A1) → Q .next { s with heap := h', toks := tk }) :
    wpAny (model PySem.Challenge.rw_ae5031_04.row.prog w) (callerA.deeper (envOfC (Str.ofString "law") lawScope L fa cd)) (exec chain (envOfC (Str.ofString "law") lawScope L fa cd)) (fun f s' => match f with | .next => wpAny (model PySem.Challenge.rw_ae5031_04.row.prog w) (callerA.deeper (envOfC (Str.ofString "law") lawScope L fa cd)) (execs [] (envOfC (Str.ofString "law") lawScope L fa cd)) Q E s' | f => Q f s') E s := by
  revert X
  k_fill
  intro X
  unfold chain
  k_steps
  refine' h _ _ _ _ _ _ _ _ _ ?zF ?zr ?zw ?zk ?zN ?f0 ?t0 ?f1 ?t1 ?g0 ?g1
  (case zF => assumption)
  (case zr => first | rfl | decide)
  (case zw => first | rfl | decide)
  (case zk => first | rfl | decide)
  (case zN => (refine news_sub (by assumption) ?_; (repeat' (first | exact fun p hp => hp | (refine sub_cons (by k_memK) ?_) | (refine sub_tail ?_)))))
  (case f0 => (refine ⟨?_, ?_, ?_, ?_, ?_, ?_, ?_⟩ <;> k_ne))
  (case t0 => k_all)
  (case f1 => (refine ⟨?_, ?_, ?_, ?_, ?_, ?_⟩ <;> k_ne))
  (case t1 => k_all)
  (case g0 => k_all)
  (case g1 => k_all)
end
end Mine
end
section
theorem Mine.freshDpop : True := by
  run_tac (do PyProof.Rows.walkLines.set (0, {}); PyProof.Rows.walkHit.set {}; PyProof.Rows.walkTop.set false; PyProof.Rows.walkStart.set 0; PyProof.Rows.walkLate.set false)
  trivial
open PySem PySem.W PySem.Calls PyProof.Rows
set_option Elab.async false
set_option maxRecDepth 100000
set_option maxHeartbeats 400000
set_option linter.unusedVariables false
set_option linter.unusedSimpArgs false
namespace Mine
local macro_rules | `(tactic| walk_at "last subscriptTail") => `(tactic| (k_here; (with_reducible show wpAny _ _ (subscriptTail _ (PySem.Expr.Slice _ _ none _) (Value.ref _) (Value.ref _)) _ _ _); k_dflt (refine' slice_any ?F ?N ?l ?p ?q ?e ?_ ?s ?t ?z; (case F => k_asm); (case N => k_asm); (case l => k_mem); (case p => kmk_part); (case q => kmk_part); (case e => (first | exact pick_from (by omega) | exact pick_upto (by omega) | exact pick_neg (by first | omega | (refine Int.neg_neg_of_pos ?_; omega)))); (case s => with_unfolding_all rfl); (case t => kmk_pure); (case z => (first | assumption | omega | (simp only [List.length_cons, List.length_nil, List.length_append, List.length_take, List.length_drop]; omega)))); intro D' h' F' N' l1; (try k_lt l1); (try k_sweep)))
local macro_rules | `(tactic| walk_at "subscriptTail Name Slice ref ref") => `(tactic| (k_here; (with_reducible show wpAny _ _ (subscriptTail _ (PySem.Expr.Slice _ _ none _) (Value.ref _) (Value.ref _)) _ _ _); k_dflt (refine' slice_any ?F ?N ?l ?p ?q ?e ?_ ?s ?t ?z; (case F => k_asm); (case N => k_asm); (case l => k_mem); (case p => kmk_part); (case q => kmk_part); (case e => (first | exact pick_from (by omega) | exact pick_upto (by omega) | exact pick_neg (by first | omega | (refine Int.neg_neg_of_pos ?_; omega)))); (case s => with_unfolding_all rfl); (case t => kmk_pure); (case z => (first | assumption | omega | (simp only [List.length_cons, List.length_nil, List.length_append, List.length_take, List.length_drop]; omega)))); intro D' h' F' N' l1; (try k_lt l1); (try k_sweep)))
local macro_rules | `(tactic| walk_at "setItem ref") => `(tactic| (k_here; k_dflt (refine' setSlice_neg ?F ?N ?b ?ne ?U ?x ?z ?_; (case F => k_asm); (case N => k_asm); (case b => k_mem); (case ne => k_ne); (case U => k_upd); (case x => (first | omega | (refine Int.neg_neg_of_pos ?_; omega))); (case z => (first | assumption | omega | (simp only [List.length_cons, List.length_nil, List.length_append, List.length_take, List.length_drop]; omega)))); intro h' F' N'; (try k_sweep)))
local macro_rules | `(tactic| walk_at "call builtin:len") => `(tactic| (k_here; (with_reducible show wpAny _ _ (call (Value.builtin "len") [Value.ref _]) _ _ _); k_dflt (refine' len_any ?N ?m ?z ?_; (case N => k_asm); (case m => k_mem); (case z => (first | assumption | omega | (simp only [List.length_cons, List.length_nil, List.length_append, List.length_take, List.length_drop]; omega))))))
local macro_rules | `(tactic| walk_at "truthy ref") => `(tactic| (k_here; k_dflt (refine' truthy_any ?N ?m ?z ?_; (case N => k_asm); (case m => k_mem); (case z => (first | assumption | omega | (simp only [List.length_cons, List.length_nil, List.length_append, List.length_take, List.length_drop]; omega)))); (try simp only [List.isEmpty_cons, List.isEmpty_nil, Bool.not_false, Bool.not_true])))
local macro_rules | `(tactic| walk_at "call builtin:list.pop") => `(tactic| (k_here; k_dflt (first | (refine' pop_last ?F ?N ?U ?z ?_; (case F => k_asm); (case N => k_asm); (case U => k_upd); (case z => (first | assumption | omega | (simp only [List.length_cons, List.length_nil, List.length_append, List.length_take, List.length_drop]; omega)))) | (refine' pop_first ?F ?N ?U ?z ?_; (case F => k_asm); (case N => k_asm); (case U => k_upd); (case z => (first | assumption | omega | (simp only [List.length_cons, List.length_nil, List.length_append, List.length_take, List.length_drop]; omega))))); intro h' F' N'; (try k_sweep)))
local macro_rules | `(tactic| walk_at "pyReprObj str") => `(tactic| (refine pyReprObj_str (hx := ?hx) ?_; (case hx => (rw [PySem.sizeLine_eq]; omega))))
local macro_rules | `(tactic| walk_at "compareOp NotEq str str") => `(tactic| first | refine ne_strs_true (by assumption) ?_ | refine ne_strs_false ?_)
local macro_rules | `(tactic| walk_at "SrcLP") => `(tactic| (k_here; k_dflt (refine LCp.SrcLP.ledger (by rfl) (by k_asm) (by k_asm) (by k_mem) (by (simp only [List.size_toArray, PySem.sizeLine_eq]; omega)) ?_; intro g'; (rename Secs _ _ _ => hsec'); refine rest_snd (by rfl) (by rfl) (by decide) (.inr ⟨_, by k_mem, rfl, _, rfl⟩) _ _ 0 [] (hsec'.mono (fun p hp => (by simp only [List.mem_cons]; first | exact hp | exact .inr hp | exact .inr (.inr hp) | exact .inr (.inr (.inr hp)) | exact .inr (.inr (.inr (.inr hp))) | exact .inr (.inr (.inr (.inr (.inr hp))))))) (fun j v hj => by simpa using hj) ?_); intro D' h' tk' F' N' off'; (try simp only [LCg.Off1] at off')))
local macro_rules | `(tactic| walk_at "call builtin:len") => `(tactic| (k_here; (with_reducible show wpAny _ _ (call (Value.builtin "len") [Value.ref _]) _ _ _); k_dflt (refine' len_ba_K ?N ?m ?_; (case N => k_asm); (case m => k_mem))))
local macro_rules | `(tactic| walk_at "compareOp In int bytes") => `(tactic| (k_here; refine in_bytes_true (by decide +kernel) (by decide +kernel) (by decide +kernel) ?_))
local macro_rules | `(tactic| walk_at "truthy bytes") => `(tactic| (k_here; refine truthy_b0 ?_))
local macro_rules | `(tactic| walk_at "UnrEnd") => `(tactic| (k_here; k_dflt (refine UnrEnd.intro (by assumption) (by assumption) _ (fun p hp => hp) (my_off (by assumption)) ?_)))
local macro_rules | `(tactic| walk_at "exec While UnaryOp cons nil") => `(tactic| (k_here; k_dflt (refine whl_start 4 ?_)))
local macro_rules | `(tactic| walk_at "subscriptTail Name Name ref int") => `(tactic| (k_here; (with_reducible show wpAny _ _ (subscriptTail _ _ (Value.ref _) (Value.int _ _)) _ _ _); k_dflt (refine' item_any ?N ?m ?x ?a ?z ?s ?_; (case N => k_asm); (case m => k_mem); (case x => assumption); (case a => first | assumption | omega); (case z => (first | assumption | omega | (simp only [List.length_cons, List.length_nil, List.length_append, List.length_take, List.length_drop]; omega))); (case s => with_unfolding_all rfl))))
local macro_rules | `(tactic| walk_at "subscriptTail Name BinOp ref int") => `(tactic| (k_here; (with_reducible show wpAny _ _ (subscriptTail _ _ (Value.ref _) (Value.int _ _)) _ _ _); k_dflt (refine' item_any ?N ?m ?x ?a ?z ?s ?_; (case N => k_asm); (case m => k_mem); (case x => assumption); (case a => first | assumption | omega); (case z => (first | assumption | omega | (simp only [List.length_cons, List.length_nil, List.length_append, List.length_take, List.length_drop]; omega))); (case s => with_unfolding_all rfl))))
local macro_rules | `(tactic| k_all) => `(tactic| assumption)
local macro_rules | `(tactic| k_ne) => `(tactic| (refine neN ?_; (try dsimp only); first | (refine Off.l (by assumption) ?_; k_memK; done) | (refine Off.r (by assumption) ?_; k_memK; done) | fail))
local macro_rules | `(tactic| walk_at "call ref") => `(tactic| (k_here; (with_reducible show wpAny _ _ (call (Value.ref 1326) _ []) _ _ _); k_dflt (refine' popI ?zzB ?zzF ?zzX ?zzT ?zzN ?zzm1 ?zzm2 ?zzc ?zzx ?zzk ?zzz ?zzU ?_; (case zzB => assumption); (case zzF => k_asm); (case zzX => assumption); (case zzT => assumption); (case zzN => k_asm); (case zzm1 => k_mem); (case zzm2 => k_mem); (case zzc => assumption); (case zzx => assumption); (case zzk => assumption); (case zzU => k_updF); (case zzz => (first | assumption | omega | (simp only [List.length_cons, List.length_nil, List.length_append, List.length_take, List.length_drop]; omega)))); intro h' tk' A1 n1 F' N' l1; (try k_lt l1); (try dsimp only at N')))
local macro_rules | `(tactic| walk_at "compareOp NotEq ref ref") => `(tactic| (k_here; (with_reducible show wpAny _ _ (compareOp CmpOp.NotEq (Value.ref _) (Value.ref _)) _ _ _); k_dflt (refine' ne_same_list ?N ?a ?b ?u ?_; (case N => k_asm); (case a => k_mem); (case b => k_mem); (case u => exact Nat.le_of_ble_eq_true rfl))))
local macro_rules | `(tactic| walk_at "last subscriptTail") => `(tactic| (k_here; (with_reducible show wpAny _ _ (subscriptTail _ (PySem.Expr.Slice _ _ none _) (Value.ref _) (Value.ref _)) _ _ _); k_dflt (refine' slice_any ?F ?N ?l ?p ?q ?e ?_ ?s ?t ?z; (case F => k_asm); (case N => k_asm); (case l => k_mem); (case p => kmk_part); (case q => kmk_part); (case e => first | exact (pick_from (by first | omega | assumption)).trans (congrArg List.toArray (by assumption)) | exact (pick_upto (by first | omega | assumption)).trans (congrArg List.toArray (by assumption))); (case s => with_unfolding_all rfl); (case t => kmk_pure); (case z => (first | assumption | omega | (simp only [List.length_cons, List.length_nil, List.length_append, List.length_take, List.length_drop]; omega)))); intro D' h' F' N' l1; (try k_lt l1); (try k_sweep)))
local macro_rules | `(tactic| walk_at "subscriptTail Name Slice ref ref") => `(tactic| (k_here; (with_reducible show wpAny _ _ (subscriptTail _ (PySem.Expr.Slice _ _ none _) (Value.ref _) (Value.ref _)) _ _ _); k_dflt (refine' slice_any ?F ?N ?l ?p ?q ?e ?_ ?s ?t ?z; (case F => k_asm); (case N => k_asm); (case l => k_mem); (case p => kmk_part); (case q => kmk_part); (case e => first | exact (pick_from (by first | omega | assumption)).trans (congrArg List.toArray (by assumption)) | exact (pick_upto (by first | omega | assumption)).trans (congrArg List.toArray (by assumption))); (case s => with_unfolding_all rfl); (case t => kmk_pure); (case z => (first | assumption | omega | (simp only [List.length_cons, List.length_nil, List.length_append, List.length_take, List.length_drop]; omega)))); intro D' h' F' N' l1; (try k_lt l1); (try k_sweep)))
section
variable {w : World} {E : Value → Shared → Prop} {Q : Flow → Shared → Prop} {s : Shared} {h₀ : Heap} {L fa : Addr} {cd : Value} {u : Str → Option Value}
  {p : Program} {loose : List Str} {mean : ExcName → Option Value} {mg mb : Str → Option Value} {tl : List (Addr × Obj)} {RW KD WT P D CX CU RS T1 T2 : Addr} {ls : List Lev} {cur wvs : List Value} {nR nK nW nX nC nS : Nat} {d : PD} {oCE : Obj} {ta td0 tp tb td tr a1 b1 b2 : Tok} {r dd bg : Int} {kd : Value} {bx nx : Option Value}
theorem deedPop {j kk : Nat} (B : Below callerA h₀ [] h₀) (X : (K w.params).In h₀) (T : Top p loose mean mg mb h₀) (F : Fr h₀ L s.heap (fun y => if y = Str.ofString "first" then some (Value.ref T1) else if y = Str.ofString "second" then some (Value.ref T2) else if y = Str.ofString "kind" then some kd else if y = Str.ofString "begin" then some (Value.int ((j : Int) - 1) tb) else if y = Str.ofString "deed" then some (Value.int 6 td) else if y = Str.ofString "rest" then some (Value.int r tr) else if y = Str.ofString "rest" then bx else if y = Str.ofString "number" then nx else if y = Str.ofString "row" then some (Value.ref RW) else if y = Str.ofString "waiting" then some (Value.ref WT) else if y = Str.ofString "kinds" then some (Value.ref KD) else u y))
    (N : News h₀ L s.heap ((T2, ({ cls := .type "tuple", data := .seq #[.int (r.fmod 50 + 1) b1, .int (r + 1) b2] 0 } : Obj)) :: (T1, ({ cls := .type "tuple", data := .seq #[.int (r.fmod 50) a1, .int r tr] 0 } : Obj)) :: (RW, listOf (rowOf ls cur).toArray nR) :: (KD, listOf #[.str (Str.ofString "a") ta, .str (Str.ofString "d") td0, .str (Str.ofString "p") tp] nK) :: (WT, listOf wvs.toArray nW) :: (P, instObj 1367 D) :: (D, dictOf (d.es w) 13) :: (CX, listOf (ctxOf ls).toArray nX) :: (CU, listOf cur.toArray nC) :: (RS, listOf wvs.toArray nS) :: (L + 1, oCE) :: tl)) (l1 : (@LT.lt Nat _ (RW) T1 ∧ @LT.lt Nat _ (KD) T1 ∧ @LT.lt Nat _ (WT) T1 ∧ @LT.lt Nat _ (P) T1 ∧ @LT.lt Nat _ (D) T1 ∧ @LT.lt Nat _ (CX) T1 ∧ @LT.lt Nat _ (CU) T1 ∧ @LT.lt Nat _ (RS) T1 ∧ @LT.lt Nat _ (L + 1) T1 ∧ AllLt T1 tl)) (l2 : @LT.lt Nat _ T1 T2 ∧ @LT.lt Nat _ (RW) T2 ∧ @LT.lt Nat _ (KD) T2 ∧ @LT.lt Nat _ (WT) T2 ∧ @LT.lt Nat _ (P) T2 ∧ @LT.lt Nat _ (D) T2 ∧ @LT.lt Nat _ (CX) T2 ∧ @LT.lt Nat _ (CU) T2 ∧ @LT.lt Nat _ (RS) T2 ∧ @LT.lt Nat _ (L + 1) T2 ∧ AllLt T2 tl)
    (hce : oCE.data = .cell (some (.ref P))) (hlen : (rowOf ls cur).length ≤ 100) (hwl : wvs.length ≤ 100) (hcl : cur.length ≤ 100) (hr : 0 ≤ r) (hr2 : r < 10000) (hcu : d.curstack = .ref CU) (hx0 : 0 ≤ (((rowOf ls cur).length : Int) - if ((rowOf ls cur).length : Int) - ((j : Int) - 1) - 1 < 1 + r.fmod 3 then ((rowOf ls cur).length : Int) - ((j : Int) - 1) - 1 else 1 + r.fmod 3)) (hk1 : 1 ≤ kk) (hx : 1 + r.fmod 3 = (kk : Int)) (hd1 : (rowOf ls cur).drop (((rowOf ls cur).length : Int) - if ((rowOf ls cur).length : Int) - ((j : Int) - 1) - 1 < 1 + r.fmod 3 then ((rowOf ls cur).length : Int) - ((j : Int) - 1) - 1 else 1 + r.fmod 3).toNat = cur.drop (cur.length - kk)) (hd2 : (rowOf ls cur).take (((rowOf ls cur).length : Int) - if ((rowOf ls cur).length : Int) - ((j : Int) - 1) - 1 < 1 + r.fmod 3 then ((rowOf ls cur).length : Int) - ((j : Int) - 1) - 1 else 1 + r.fmod 3).toNat = rowOf ls (cur.take (cur.length - kk)))
    (oCU : Off CU [RW, KD, WT, P, D, CX, RS, L + 1]) (tCU : ∀ p ∈ tl, p.1 ≠ CU)
    (h : ∀ h' tk m' RW' nC', Fr h₀ L h' m' → m' (Str.ofString "row") = some (.ref RW') → m' (Str.ofString "waiting") = some (.ref WT) → m' (Str.ofString "kinds") = some (.ref KD) → News h₀ L h' ((RW', listOf (rowOf ls (cur.take (cur.length - kk))).toArray 0) :: (KD, listOf #[.str (Str.ofString "a") ta, .str (Str.ofString "d") td0, .str (Str.ofString "p") tp] nK) :: (WT, listOf wvs.toArray nW) :: (P, instObj 1367 D) :: (D, dictOf (d.es w) 13) :: (CX, listOf (ctxOf ls).toArray nX) :: (CU, listOf (cur.take (cur.length - kk)).toArray nC') :: (RS, listOf wvs.toArray nS) :: (L + 1, oCE) :: tl) → (@Ne Nat KD RW' ∧ @Ne Nat WT RW' ∧ @Ne Nat CX RW' ∧ @Ne Nat CU RW' ∧ @Ne Nat RS RW' ∧ @Ne Nat RW RW') → (∀ p ∈ tl, p.1 ≠ RW') → Q .next { s with heap := h', toks := tk }) :
    wpAny (model PySem.Challenge.rw_ae5031_04.row.prog w) (callerA.deeper (envOfC (Str.ofString "law") lawScope L fa cd)) (exec chain (envOfC (Str.ofString "law") lawScope L fa cd)) (fun f s' => match f with | .next => wpAny (model PySem.Challenge.rw_ae5031_04.row.prog w) (callerA.deeper (envOfC (Str.ofString "law") lawScope L fa cd)) (execs [] (envOfC (Str.ofString "law") lawScope L fa cd)) Q E s' | f => Q f s') E s := by
  revert X
  k_fill
  intro X
  unfold chain
  k_steps
  refine' h _ _ _ _ _ ?zF ?zr ?zw ?zk ?zN ?f0 ?t0
  (case zF => assumption)
  (case zr => first | rfl | decide)
  (case zw => first | rfl | decide)
  (case zk => first | rfl | decide)
  (case zN => (refine news_sub (by assumption) ?_; (repeat' (first | exact fun p hp => hp | (refine sub_cons (by k_memK) ?_) | (refine sub_tail ?_)))))
  (case f0 => (refine ⟨?_, ?_, ?_, ?_, ?_, ?_⟩ <;> k_ne))
  (case t0 => k_all)
end
end Mine
end
section
theorem Mine.freshDendA4 : True := by
  run_tac (do PyProof.Rows.walkLines.set (0, {}); PyProof.Rows.walkHit.set {}; PyProof.Rows.walkTop.set false; PyProof.Rows.walkStart.set 0; PyProof.Rows.walkLate.set false)
  trivial
open PySem PySem.W PySem.Calls PyProof.Rows
set_option Elab.async false
set_option maxRecDepth 100000
set_option maxHeartbeats 400000
set_option linter.unusedVariables false
set_option linter.unusedSimpArgs false
namespace Mine
local macro_rules | `(tactic| walk_at "last subscriptTail") => `(tactic| (k_here; (with_reducible show wpAny _ _ (subscriptTail _ (PySem.Expr.Slice _ _ none _) (Value.ref _) (Value.ref _)) _ _ _); k_dflt (refine' slice_any ?F ?N ?l ?p ?q ?e ?_ ?s ?t ?z; (case F => k_asm); (case N => k_asm); (case l => k_mem); (case p => kmk_part); (case q => kmk_part); (case e => (first | exact pick_from (by omega) | exact pick_upto (by omega) | exact pick_neg (by first | omega | (refine Int.neg_neg_of_pos ?_; omega)))); (case s => with_unfolding_all rfl); (case t => kmk_pure); (case z => (first | assumption | omega | (simp only [List.length_cons, List.length_nil, List.length_append, List.length_take, List.length_drop]; omega)))); intro D' h' F' N' l1; (try k_lt l1); (try k_sweep)))
local macro_rules | `(tactic| walk_at "subscriptTail Name Slice ref ref") => `(tactic| (k_here; (with_reducible show wpAny _ _ (subscriptTail _ (PySem.Expr.Slice _ _ none _) (Value.ref _) (Value.ref _)) _ _ _); k_dflt (refine' slice_any ?F ?N ?l ?p ?q ?e ?_ ?s ?t ?z; (case F => k_asm); (case N => k_asm); (case l => k_mem); (case p => kmk_part); (case q => kmk_part); (case e => (first | exact pick_from (by omega) | exact pick_upto (by omega) | exact pick_neg (by first | omega | (refine Int.neg_neg_of_pos ?_; omega)))); (case s => with_unfolding_all rfl); (case t => kmk_pure); (case z => (first | assumption | omega | (simp only [List.length_cons, List.length_nil, List.length_append, List.length_take, List.length_drop]; omega)))); intro D' h' F' N' l1; (try k_lt l1); (try k_sweep)))
local macro_rules | `(tactic| walk_at "setItem ref") => `(tactic| (k_here; k_dflt (refine' setSlice_neg ?F ?N ?b ?ne ?U ?x ?z ?_; (case F => k_asm); (case N => k_asm); (case b => k_mem); (case ne => k_ne); (case U => k_upd); (case x => (first | omega | (refine Int.neg_neg_of_pos ?_; omega))); (case z => (first | assumption | omega | (simp only [List.length_cons, List.length_nil, List.length_append, List.length_take, List.length_drop]; omega)))); intro h' F' N'; (try k_sweep)))
local macro_rules | `(tactic| walk_at "call builtin:len") => `(tactic| (k_here; (with_reducible show wpAny _ _ (call (Value.builtin "len") [Value.ref _]) _ _ _); k_dflt (refine' len_any ?N ?m ?z ?_; (case N => k_asm); (case m => k_mem); (case z => (first | assumption | omega | (simp only [List.length_cons, List.length_nil, List.length_append, List.length_take, List.length_drop]; omega))))))
local macro_rules | `(tactic| walk_at "truthy ref") => `(tactic| (k_here; k_dflt (refine' truthy_any ?N ?m ?z ?_; (case N => k_asm); (case m => k_mem); (case z => (first | assumption | omega | (simp only [List.length_cons, List.length_nil, List.length_append, List.length_take, List.length_drop]; omega)))); (try simp only [List.isEmpty_cons, List.isEmpty_nil, Bool.not_false, Bool.not_true])))
local macro_rules | `(tactic| walk_at "call builtin:list.pop") => `(tactic| (k_here; k_dflt (first | (refine' pop_last ?F ?N ?U ?z ?_; (case F => k_asm); (case N => k_asm); (case U => k_upd); (case z => (first | assumption | omega | (simp only [List.length_cons, List.length_nil, List.length_append, List.length_take, List.length_drop]; omega)))) | (refine' pop_first ?F ?N ?U ?z ?_; (case F => k_asm); (case N => k_asm); (case U => k_upd); (case z => (first | assumption | omega | (simp only [List.length_cons, List.length_nil, List.length_append, List.length_take, List.length_drop]; omega))))); intro h' F' N'; (try k_sweep)))
local macro_rules | `(tactic| walk_at "pyReprObj str") => `(tactic| (refine pyReprObj_str (hx := ?hx) ?_; (case hx => (rw [PySem.sizeLine_eq]; omega))))
local macro_rules | `(tactic| walk_at "compareOp NotEq str str") => `(tactic| first | refine ne_strs_true (by assumption) ?_ | refine ne_strs_false ?_)
local macro_rules | `(tactic| walk_at "SrcLP") => `(tactic| (k_here; k_dflt (refine LCp.SrcLP.ledger (by rfl) (by k_asm) (by k_asm) (by k_mem) (by (simp only [List.size_toArray, PySem.sizeLine_eq]; omega)) ?_; intro g'; (rename Secs _ _ _ => hsec'); refine rest_snd (by rfl) (by rfl) (by decide) (.inr ⟨_, by k_mem, rfl, _, rfl⟩) _ _ 0 [] (hsec'.mono (fun p hp => (by simp only [List.mem_cons]; first | exact hp | exact .inr hp | exact .inr (.inr hp) | exact .inr (.inr (.inr hp)) | exact .inr (.inr (.inr (.inr hp))) | exact .inr (.inr (.inr (.inr (.inr hp))))))) (fun j v hj => by simpa using hj) ?_); intro D' h' tk' F' N' off'; (try simp only [LCg.Off1] at off')))
local macro_rules | `(tactic| walk_at "call builtin:len") => `(tactic| (k_here; (with_reducible show wpAny _ _ (call (Value.builtin "len") [Value.ref _]) _ _ _); k_dflt (refine' len_ba_K ?N ?m ?_; (case N => k_asm); (case m => k_mem))))
local macro_rules | `(tactic| walk_at "compareOp In int bytes") => `(tactic| (k_here; refine in_bytes_true (by decide +kernel) (by decide +kernel) (by decide +kernel) ?_))
local macro_rules | `(tactic| walk_at "truthy bytes") => `(tactic| (k_here; refine truthy_b0 ?_))
local macro_rules | `(tactic| walk_at "UnrEnd") => `(tactic| (k_here; k_dflt (refine UnrEnd.intro (by assumption) (by assumption) _ (fun p hp => hp) (my_off (by assumption)) ?_)))
local macro_rules | `(tactic| walk_at "exec While UnaryOp cons nil") => `(tactic| (k_here; k_dflt (refine whl_start 4 ?_)))
local macro_rules | `(tactic| walk_at "subscriptTail Name Name ref int") => `(tactic| (k_here; (with_reducible show wpAny _ _ (subscriptTail _ _ (Value.ref _) (Value.int _ _)) _ _ _); k_dflt (refine' item_any ?N ?m ?x ?a ?z ?s ?_; (case N => k_asm); (case m => k_mem); (case x => assumption); (case a => first | assumption | omega); (case z => (first | assumption | omega | (simp only [List.length_cons, List.length_nil, List.length_append, List.length_take, List.length_drop]; omega))); (case s => with_unfolding_all rfl))))
local macro_rules | `(tactic| walk_at "subscriptTail Name BinOp ref int") => `(tactic| (k_here; (with_reducible show wpAny _ _ (subscriptTail _ _ (Value.ref _) (Value.int _ _)) _ _ _); k_dflt (refine' item_any ?N ?m ?x ?a ?z ?s ?_; (case N => k_asm); (case m => k_mem); (case x => assumption); (case a => first | assumption | omega); (case z => (first | assumption | omega | (simp only [List.length_cons, List.length_nil, List.length_append, List.length_take, List.length_drop]; omega))); (case s => with_unfolding_all rfl))))
local macro_rules | `(tactic| k_all) => `(tactic| assumption)
local macro_rules | `(tactic| k_ne) => `(tactic| (refine neN ?_; (try dsimp only); first | (refine Off.l (by assumption) ?_; k_memK; done) | (refine Off.r (by assumption) ?_; k_memK; done) | fail))
local macro_rules | `(tactic| walk_at "call ref") => `(tactic| (k_here; (with_reducible show wpAny _ _ (call (Value.ref 1649) _ []) _ _ _); k_dflt (refine' endedNoneU ?zzB ?zzF ?zzX ?zzT ?zzN ?zzm1 ?zzm2 ?zzc ?zzr ?_; (case zzB => assumption); (case zzF => k_asm); (case zzX => assumption); (case zzT => assumption); (case zzN => k_asm); (case zzm1 => k_mem); (case zzm2 => k_mem); (case zzc => assumption); (case zzr => assumption)); intro h' tk' F' N'; (try dsimp only at N')))
section
variable {w : World} {E : Value → Shared → Prop} {Q : Flow → Shared → Prop} {s : Shared} {h₀ : Heap} {L fa : Addr} {cd : Value} {u : Str → Option Value}
  {p : Program} {loose : List Str} {mean : ExcName → Option Value} {mg mb : Str → Option Value} {tl : List (Addr × Obj)} {RW KD WT P D CX CU RS T1 T2 : Addr} {ls : List Lev} {cur wvs : List Value} {nR nK nW nX nC nS : Nat} {d : PD} {oCE : Obj} {ta td0 tp tb td tr a1 b1 b2 : Tok} {r dd bg : Int} {kd : Value} {bx nx : Option Value}
theorem deedEndA4 {j : Nat} {k : Str} {tk1 : Tok} (B : Below callerA h₀ [] h₀) (X : (K w.params).In h₀) (T : Top p loose mean mg mb h₀) (F : Fr h₀ L s.heap (fun y => if y = Str.ofString "first" then some (Value.ref T1) else if y = Str.ofString "second" then some (Value.ref T2) else if y = Str.ofString "kind" then some (Value.str k tk1) else if y = Str.ofString "begin" then some (Value.int ((j : Int) - 1) tb) else if y = Str.ofString "deed" then some (Value.int 4 td) else if y = Str.ofString "rest" then some (Value.int r tr) else if y = Str.ofString "rest" then bx else if y = Str.ofString "number" then nx else if y = Str.ofString "row" then some (Value.ref RW) else if y = Str.ofString "waiting" then some (Value.ref WT) else if y = Str.ofString "kinds" then some (Value.ref KD) else u y))
    (N : News h₀ L s.heap ((T2, ({ cls := .type "tuple", data := .seq #[.int (r.fmod 50 + 1) b1, .int (r + 1) b2] 0 } : Obj)) :: (T1, ({ cls := .type "tuple", data := .seq #[.int (r.fmod 50) a1, .int r tr] 0 } : Obj)) :: (RW, listOf (rowOf ls cur).toArray nR) :: (KD, listOf #[.str (Str.ofString "a") ta, .str (Str.ofString "d") td0, .str (Str.ofString "p") tp] nK) :: (WT, listOf wvs.toArray nW) :: (P, instObj 1367 D) :: (D, dictOf (d.es w) 13) :: (CX, listOf (ctxOf ls).toArray nX) :: (CU, listOf cur.toArray nC) :: (RS, listOf wvs.toArray nS) :: (L + 1, oCE) :: tl)) (l1 : (@LT.lt Nat _ (RW) T1 ∧ @LT.lt Nat _ (KD) T1 ∧ @LT.lt Nat _ (WT) T1 ∧ @LT.lt Nat _ (P) T1 ∧ @LT.lt Nat _ (D) T1 ∧ @LT.lt Nat _ (CX) T1 ∧ @LT.lt Nat _ (CU) T1 ∧ @LT.lt Nat _ (RS) T1 ∧ @LT.lt Nat _ (L + 1) T1 ∧ AllLt T1 tl)) (l2 : @LT.lt Nat _ T1 T2 ∧ @LT.lt Nat _ (RW) T2 ∧ @LT.lt Nat _ (KD) T2 ∧ @LT.lt Nat _ (WT) T2 ∧ @LT.lt Nat _ (P) T2 ∧ @LT.lt Nat _ (D) T2 ∧ @LT.lt Nat _ (CX) T2 ∧ @LT.lt Nat _ (CU) T2 ∧ @LT.lt Nat _ (RS) T2 ∧ @LT.lt Nat _ (L + 1) T2 ∧ AllLt T2 tl)
    (hce : oCE.data = .cell (some (.ref P))) (hlen : (rowOf ls cur).length ≤ 100) (hwl : wvs.length ≤ 100) (hcl : cur.length ≤ 100) (hr : 0 ≤ r) (hr2 : r < 10000) (hct : d.curtype = .none) (hbg : (j : Int) - 1 < 0) (hkr : (reprText k).length ≤ 100)
    (h : ∀ h' tk m' , Fr h₀ L h' m' → m' (Str.ofString "row") = some (.ref RW) → m' (Str.ofString "waiting") = some (.ref WT) → m' (Str.ofString "kinds") = some (.ref KD) → News h₀ L h' ((T2, ({ cls := .type "tuple", data := .seq #[.int (r.fmod 50 + 1) b1, .int (r + 1) b2] 0 } : Obj)) :: (T1, ({ cls := .type "tuple", data := .seq #[.int (r.fmod 50) a1, .int r tr] 0 } : Obj)) :: (RW, listOf (rowOf ls cur).toArray nR) :: (KD, listOf #[.str (Str.ofString "a") ta, .str (Str.ofString "d") td0, .str (Str.ofString "p") tp] nK) :: (WT, listOf wvs.toArray nW) :: (P, instObj 1367 D) :: (D, dictOf (d.es w) 13) :: (CX, listOf (ctxOf ls).toArray nX) :: (CU, listOf cur.toArray nC) :: (RS, listOf wvs.toArray nS) :: (L + 1, oCE) :: tl) → Q .next { s with heap := h', toks := tk }) :
    wpAny (model PySem.Challenge.rw_ae5031_04.row.prog w) (callerA.deeper (envOfC (Str.ofString "law") lawScope L fa cd)) (exec chain (envOfC (Str.ofString "law") lawScope L fa cd)) (fun f s' => match f with | .next => wpAny (model PySem.Challenge.rw_ae5031_04.row.prog w) (callerA.deeper (envOfC (Str.ofString "law") lawScope L fa cd)) (execs [] (envOfC (Str.ofString "law") lawScope L fa cd)) Q E s' | f => Q f s') E s := by
  revert X
  k_fill
  intro X
  unfold chain
  k_steps
  refine' h _ _ _  ?zF ?zr ?zw ?zk ?zN 
  (case zF => assumption)
  (case zr => first | rfl | decide)
  (case zw => first | rfl | decide)
  (case zk => first | rfl | decide)
  (case zN => (refine news_sub (by assumption) ?_; (repeat' (first | exact fun p hp => hp | (refine sub_cons (by k_memK) ?_) | (refine sub_tail ?_)))))
end
end Mine
end
section
theorem Mine.freshDendA5 : True := by
  run_tac (do PyProof.Rows.walkLines.set (0, {}); PyProof.Rows.walkHit.set {}; PyProof.Rows.walkTop.set false; PyProof.Rows.walkStart.set 0; PyProof.Rows.walkLate.set false)
  trivial
open PySem PySem.W PySem.Calls PyProof.Rows
set_option Elab.async false
set_option maxRecDepth 100000
set_option maxHeartbeats 400000
set_option linter.unusedVariables false
set_option linter.unusedSimpArgs false
namespace Mine
local macro_rules | `(tactic| walk_at "last subscriptTail") => `(tactic| (k_here; (with_reducible show wpAny _ _ (subscriptTail _ (PySem.Expr.Slice _ _ none _) (Value.ref _) (Value.ref _)) _ _ _); k_dflt (refine' slice_any ?F ?N ?l ?p ?q ?e ?_ ?s ?t ?z; (case F => k_asm); (case N => k_asm); (case l => k_mem); (case p => kmk_part); (case q => kmk_part); (case e => (first | exact pick_from (by omega) | exact pick_upto (by omega) | exact pick_neg (by first | omega | (refine Int.neg_neg_of_pos ?_; omega)))); (case s => with_unfolding_all rfl); (case t => kmk_pure); (case z => (first | assumption | omega | (simp only [List.length_cons, List.length_nil, List.length_append, List.length_take, List.length_drop]; omega)))); intro D' h' F' N' l1; (try k_lt l1); (try k_sweep)))
local macro_rules | `(tactic| walk_at "subscriptTail Name Slice ref ref") => `(tactic| (k_here; (with_reducible show wpAny _ _ (subscriptTail _ (PySem.Expr.Slice _ _ none _) (Value.ref _) (Value.ref _)) _ _ _); k_dflt (refine' slice_any ?F ?N ?l ?p ?q ?e ?_ ?s ?t ?z; (case F => k_asm); (case N => k_asm); (case l => k_mem); (case p => kmk_part); (case q => kmk_part); (case e => (first | exact pick_from (by omega) | exact pick_upto (by omega) | exact pick_neg (by first | omega | (refine Int.neg_neg_of_pos ?_; omega)))); (case s => with_unfolding_all rfl); (case t => kmk_pure); (case z => (first | assumption | omega | (simp only [List.length_cons, List.length_nil, List.length_append, List.length_take, List.length_drop]; omega)))); intro D' h' F' N' l1; (try k_lt l1); (try k_sweep)))
local macro_rules | `(tactic| walk_at "setItem ref") => `(tactic| (k_here; k_dflt (refine' setSlice_neg ?F ?N ?b ?ne ?U ?x ?z ?_; (case F => k_asm); (case N => k_asm); (case b => k_mem); (case ne => k_ne); (case U => k_upd); (case x => (first | omega | (refine Int.neg_neg_of_pos ?_; omega))); (case z => (first | assumption | omega | (simp only [List.length_cons, List.length_nil, List.length_append, List.length_take, List.length_drop]; omega)))); intro h' F' N'; (try k_sweep)))
local macro_rules | `(tactic| walk_at "call builtin:len") => `(tactic| (k_here; (with_reducible show wpAny _ _ (call (Value.builtin "len") [Value.ref _]) _ _ _); k_dflt (refine' len_any ?N ?m ?z ?_; (case N => k_asm); (case m => k_mem); (case z => (first | assumption | omega | (simp only [List.length_cons, List.length_nil, List.length_append, List.length_take, List.length_drop]; omega))))))
local macro_rules | `(tactic| walk_at "truthy ref") => `(tactic| (k_here; k_dflt (refine' truthy_any ?N ?m ?z ?_; (case N => k_asm); (case m => k_mem); (case z => (first | assumption | omega | (simp only [List.length_cons, List.length_nil, List.length_append, List.length_take, List.length_drop]; omega)))); (try simp only [List.isEmpty_cons, List.isEmpty_nil, Bool.not_false, Bool.not_true])))
local macro_rules | `(tactic| walk_at "call builtin:list.pop") => `(tactic| (k_here; k_dflt (first | (refine' pop_last ?F ?N ?U ?z ?_; (case F => k_asm); (case N => k_asm); (case U => k_upd); (case z => (first | assumption | omega | (simp only [List.length_cons, List.length_nil, List.length_append, List.length_take, List.length_drop]; omega)))) | (refine' pop_first ?F ?N ?U ?z ?_; (case F => k_asm); (case N => k_asm); (case U => k_upd); (case z => (first | assumption | omega | (simp only [List.length_cons, List.length_nil, List.length_append, List.length_take, List.length_drop]; omega))))); intro h' F' N'; (try k_sweep)))
local macro_rules | `(tactic| walk_at "pyReprObj str") => `(tactic| (refine pyReprObj_str (hx := ?hx) ?_; (case hx => (rw [PySem.sizeLine_eq]; omega))))
local macro_rules | `(tactic| walk_at "compareOp NotEq str str") => `(tactic| first | refine ne_strs_true (by assumption) ?_ | refine ne_strs_false ?_)
local macro_rules | `(tactic| walk_at "SrcLP") => `(tactic| (k_here; k_dflt (refine LCp.SrcLP.ledger (by rfl) (by k_asm) (by k_asm) (by k_mem) (by (simp only [List.size_toArray, PySem.sizeLine_eq]; omega)) ?_; intro g'; (rename Secs _ _ _ => hsec'); refine rest_snd (by rfl) (by rfl) (by decide) (.inr ⟨_, by k_mem, rfl, _, rfl⟩) _ _ 0 [] (hsec'.mono (fun p hp => (by simp only [List.mem_cons]; first | exact hp | exact .inr hp | exact .inr (.inr hp) | exact .inr (.inr (.inr hp)) | exact .inr (.inr (.inr (.inr hp))) | exact .inr (.inr (.inr (.inr (.inr hp))))))) (fun j v hj => by simpa using hj) ?_); intro D' h' tk' F' N' off'; (try simp only [LCg.Off1] at off')))
local macro_rules | `(tactic| walk_at "call builtin:len") => `(tactic| (k_here; (with_reducible show wpAny _ _ (call (Value.builtin "len") [Value.ref _]) _ _ _); k_dflt (refine' len_ba_K ?N ?m ?_; (case N => k_asm); (case m => k_mem))))
local macro_rules | `(tactic| walk_at "compareOp In int bytes") => `(tactic| (k_here; refine in_bytes_true (by decide +kernel) (by decide +kernel) (by decide +kernel) ?_))
local macro_rules | `(tactic| walk_at "truthy bytes") => `(tactic| (k_here; refine truthy_b0 ?_))
local macro_rules | `(tactic| walk_at "UnrEnd") => `(tactic| (k_here; k_dflt (refine UnrEnd.intro (by assumption) (by assumption) _ (fun p hp => hp) (my_off (by assumption)) ?_)))
local macro_rules | `(tactic| walk_at "exec While UnaryOp cons nil") => `(tactic| (k_here; k_dflt (refine whl_start 4 ?_)))
local macro_rules | `(tactic| walk_at "subscriptTail Name Name ref int") => `(tactic| (k_here; (with_reducible show wpAny _ _ (subscriptTail _ _ (Value.ref _) (Value.int _ _)) _ _ _); k_dflt (refine' item_any ?N ?m ?x ?a ?z ?s ?_; (case N => k_asm); (case m => k_mem); (case x => assumption); (case a => first | assumption | omega); (case z => (first | assumption | omega | (simp only [List.length_cons, List.length_nil, List.length_append, List.length_take, List.length_drop]; omega))); (case s => with_unfolding_all rfl))))
local macro_rules | `(tactic| walk_at "subscriptTail Name BinOp ref int") => `(tactic| (k_here; (with_reducible show wpAny _ _ (subscriptTail _ _ (Value.ref _) (Value.int _ _)) _ _ _); k_dflt (refine' item_any ?N ?m ?x ?a ?z ?s ?_; (case N => k_asm); (case m => k_mem); (case x => assumption); (case a => first | assumption | omega); (case z => (first | assumption | omega | (simp only [List.length_cons, List.length_nil, List.length_append, List.length_take, List.length_drop]; omega))); (case s => with_unfolding_all rfl))))
local macro_rules | `(tactic| k_all) => `(tactic| assumption)
local macro_rules | `(tactic| k_ne) => `(tactic| (refine neN ?_; (try dsimp only); first | (refine Off.l (by assumption) ?_; k_memK; done) | (refine Off.r (by assumption) ?_; k_memK; done) | fail))
local macro_rules | `(tactic| walk_at "call ref") => `(tactic| (k_here; (with_reducible show wpAny _ _ (call (Value.ref 1649) _ []) _ _ _); k_dflt (refine' endedNoneU ?zzB ?zzF ?zzX ?zzT ?zzN ?zzm1 ?zzm2 ?zzc ?zzr ?_; (case zzB => assumption); (case zzF => k_asm); (case zzX => assumption); (case zzT => assumption); (case zzN => k_asm); (case zzm1 => k_mem); (case zzm2 => k_mem); (case zzc => assumption); (case zzr => assumption)); intro h' tk' F' N'; (try dsimp only at N')))
section
variable {w : World} {E : Value → Shared → Prop} {Q : Flow → Shared → Prop} {s : Shared} {h₀ : Heap} {L fa : Addr} {cd : Value} {u : Str → Option Value}
  {p : Program} {loose : List Str} {mean : ExcName → Option Value} {mg mb : Str → Option Value} {tl : List (Addr × Obj)} {RW KD WT P D CX CU RS T1 T2 : Addr} {ls : List Lev} {cur wvs : List Value} {nR nK nW nX nC nS : Nat} {d : PD} {oCE : Obj} {ta td0 tp tb td tr a1 b1 b2 : Tok} {r dd bg : Int} {kd : Value} {bx nx : Option Value}
theorem deedEndA5 {j : Nat} {k : Str} {tk1 : Tok} (B : Below callerA h₀ [] h₀) (X : (K w.params).In h₀) (T : Top p loose mean mg mb h₀) (F : Fr h₀ L s.heap (fun y => if y = Str.ofString "first" then some (Value.ref T1) else if y = Str.ofString "second" then some (Value.ref T2) else if y = Str.ofString "kind" then some (Value.str k tk1) else if y = Str.ofString "begin" then some (Value.int ((j : Int) - 1) tb) else if y = Str.ofString "deed" then some (Value.int 5 td) else if y = Str.ofString "rest" then some (Value.int r tr) else if y = Str.ofString "rest" then bx else if y = Str.ofString "number" then nx else if y = Str.ofString "row" then some (Value.ref RW) else if y = Str.ofString "waiting" then some (Value.ref WT) else if y = Str.ofString "kinds" then some (Value.ref KD) else u y))
    (N : News h₀ L s.heap ((T2, ({ cls := .type "tuple", data := .seq #[.int (r.fmod 50 + 1) b1, .int (r + 1) b2] 0 } : Obj)) :: (T1, ({ cls := .type "tuple", data := .seq #[.int (r.fmod 50) a1, .int r tr] 0 } : Obj)) :: (RW, listOf (rowOf ls cur).toArray nR) :: (KD, listOf #[.str (Str.ofString "a") ta, .str (Str.ofString "d") td0, .str (Str.ofString "p") tp] nK) :: (WT, listOf wvs.toArray nW) :: (P, instObj 1367 D) :: (D, dictOf (d.es w) 13) :: (CX, listOf (ctxOf ls).toArray nX) :: (CU, listOf cur.toArray nC) :: (RS, listOf wvs.toArray nS) :: (L + 1, oCE) :: tl)) (l1 : (@LT.lt Nat _ (RW) T1 ∧ @LT.lt Nat _ (KD) T1 ∧ @LT.lt Nat _ (WT) T1 ∧ @LT.lt Nat _ (P) T1 ∧ @LT.lt Nat _ (D) T1 ∧ @LT.lt Nat _ (CX) T1 ∧ @LT.lt Nat _ (CU) T1 ∧ @LT.lt Nat _ (RS) T1 ∧ @LT.lt Nat _ (L + 1) T1 ∧ AllLt T1 tl)) (l2 : @LT.lt Nat _ T1 T2 ∧ @LT.lt Nat _ (RW) T2 ∧ @LT.lt Nat _ (KD) T2 ∧ @LT.lt Nat _ (WT) T2 ∧ @LT.lt Nat _ (P) T2 ∧ @LT.lt Nat _ (D) T2 ∧ @LT.lt Nat _ (CX) T2 ∧ @LT.lt Nat _ (CU) T2 ∧ @LT.lt Nat _ (RS) T2 ∧ @LT.lt Nat _ (L + 1) T2 ∧ AllLt T2 tl)
    (hce : oCE.data = .cell (some (.ref P))) (hlen : (rowOf ls cur).length ≤ 100) (hwl : wvs.length ≤ 100) (hcl : cur.length ≤ 100) (hr : 0 ≤ r) (hr2 : r < 10000) (hct : d.curtype = .none) (hbg : (j : Int) - 1 < 0) (hkr : (reprText k).length ≤ 100)
    (h : ∀ h' tk m' , Fr h₀ L h' m' → m' (Str.ofString "row") = some (.ref RW) → m' (Str.ofString "waiting") = some (.ref WT) → m' (Str.ofString "kinds") = some (.ref KD) → News h₀ L h' ((T2, ({ cls := .type "tuple", data := .seq #[.int (r.fmod 50 + 1) b1, .int (r + 1) b2] 0 } : Obj)) :: (T1, ({ cls := .type "tuple", data := .seq #[.int (r.fmod 50) a1, .int r tr] 0 } : Obj)) :: (RW, listOf (rowOf ls cur).toArray nR) :: (KD, listOf #[.str (Str.ofString "a") ta, .str (Str.ofString "d") td0, .str (Str.ofString "p") tp] nK) :: (WT, listOf wvs.toArray nW) :: (P, instObj 1367 D) :: (D, dictOf (d.es w) 13) :: (CX, listOf (ctxOf ls).toArray nX) :: (CU, listOf cur.toArray nC) :: (RS, listOf wvs.toArray nS) :: (L + 1, oCE) :: tl) → Q .next { s with heap := h', toks := tk }) :
    wpAny (model PySem.Challenge.rw_ae5031_04.row.prog w) (callerA.deeper (envOfC (Str.ofString "law") lawScope L fa cd)) (exec chain (envOfC (Str.ofString "law") lawScope L fa cd)) (fun f s' => match f with | .next => wpAny (model PySem.Challenge.rw_ae5031_04.row.prog w) (callerA.deeper (envOfC (Str.ofString "law") lawScope L fa cd)) (execs [] (envOfC (Str.ofString "law") lawScope L fa cd)) Q E s' | f => Q f s') E s := by
  revert X
  k_fill
  intro X
  unfold chain
  k_steps
  refine' h _ _ _  ?zF ?zr ?zw ?zk ?zN 
  (case zF => assumption)
  (case zr => first | rfl | decide)
  (case zw => first | rfl | decide)
  (case zk => first | rfl | decide)
  (case zN => (refine news_sub (by assumption) ?_; (repeat' (first | exact fun p hp => hp | (refine sub_cons (by k_memK) ?_) | (refine sub_tail ?_)))))
end
end Mine
end
section
theorem Mine.freshDendB : True := by
  run_tac (do PyProof.Rows.walkLines.set (0, {}); PyProof.Rows.walkHit.set {}; PyProof.Rows.walkTop.set false; PyProof.Rows.walkStart.set 0; PyProof.Rows.walkLate.set false)
  trivial
open PySem PySem.W PySem.Calls PyProof.Rows
set_option Elab.async false
set_option maxRecDepth 100000
set_option maxHeartbeats 400000
set_option linter.unusedVariables false
set_option linter.unusedSimpArgs false
namespace Mine
local macro_rules | `(tactic| walk_at "last subscriptTail") => `(tactic| (k_here; (with_reducible show wpAny _ _ (subscriptTail _ (PySem.Expr.Slice _ _ none _) (Value.ref _) (Value.ref _)) _ _ _); k_dflt (refine' slice_any ?F ?N ?l ?p ?q ?e ?_ ?s ?t ?z; (case F => k_asm); (case N => k_asm); (case l => k_mem); (case p => kmk_part); (case q => kmk_part); (case e => (first | exact pick_from (by omega) | exact pick_upto (by omega) | exact pick_neg (by first | omega | (refine Int.neg_neg_of_pos ?_; omega)))); (case s => with_unfolding_all rfl); (case t => kmk_pure); (case z => (first | assumption | omega | (simp only [List.length_cons, List.length_nil, List.length_append, List.length_take, List.length_drop]; omega)))); intro D' h' F' N' l1; (try k_lt l1); (try k_sweep)))
local macro_rules | `(tactic| walk_at "subscriptTail Name Slice ref ref") => `(tactic| (k_here; (with_reducible show wpAny _ _ (subscriptTail _ (PySem.Expr.Slice _ _ none _) (Value.ref _) (Value.ref _)) _ _ _); k_dflt (refine' slice_any ?F ?N ?l ?p ?q ?e ?_ ?s ?t ?z; (case F => k_asm); (case N => k_asm); (case l => k_mem); (case p => kmk_part); (case q => kmk_part); (case e => (first | exact pick_from (by omega) | exact pick_upto (by omega) | exact pick_neg (by first | omega | (refine Int.neg_neg_of_pos ?_; omega)))); (case s => with_unfolding_all rfl); (case t => kmk_pure); (case z => (first | assumption | omega | (simp only [List.length_cons, List.length_nil, List.length_append, List.length_take, List.length_drop]; omega)))); intro D' h' F' N' l1; (try k_lt l1); (try k_sweep)))
local macro_rules | `(tactic| walk_at "setItem ref") => `(tactic| (k_here; k_dflt (refine' setSlice_neg ?F ?N ?b ?ne ?U ?x ?z ?_; (case F => k_asm); (case N => k_asm); (case b => k_mem); (case ne => k_ne); (case U => k_upd); (case x => (first | omega | (refine Int.neg_neg_of_pos ?_; omega))); (case z => (first | assumption | omega | (simp only [List.length_cons, List.length_nil, List.length_append, List.length_take, List.length_drop]; omega)))); intro h' F' N'; (try k_sweep)))
local macro_rules | `(tactic| walk_at "call builtin:len") => `(tactic| (k_here; (with_reducible show wpAny _ _ (call (Value.builtin "len") [Value.ref _]) _ _ _); k_dflt (refine' len_any ?N ?m ?z ?_; (case N => k_asm); (case m => k_mem); (case z => (first | assumption | omega | (simp only [List.length_cons, List.length_nil, List.length_append, List.length_take, List.length_drop]; omega))))))
local macro_rules | `(tactic| walk_at "truthy ref") => `(tactic| (k_here; k_dflt (refine' truthy_any ?N ?m ?z ?_; (case N => k_asm); (case m => k_mem); (case z => (first | assumption | omega | (simp only [List.length_cons, List.length_nil, List.length_append, List.length_take, List.length_drop]; omega)))); (try simp only [List.isEmpty_cons, List.isEmpty_nil, Bool.not_false, Bool.not_true])))
local macro_rules | `(tactic| walk_at "call builtin:list.pop") => `(tactic| (k_here; k_dflt (first | (refine' pop_last ?F ?N ?U ?z ?_; (case F => k_asm); (case N => k_asm); (case U => k_upd); (case z => (first | assumption | omega | (simp only [List.length_cons, List.length_nil, List.length_append, List.length_take, List.length_drop]; omega)))) | (refine' pop_first ?F ?N ?U ?z ?_; (case F => k_asm); (case N => k_asm); (case U => k_upd); (case z => (first | assumption | omega | (simp only [List.length_cons, List.length_nil, List.length_append, List.length_take, List.length_drop]; omega))))); intro h' F' N'; (try k_sweep)))
local macro_rules | `(tactic| walk_at "pyReprObj str") => `(tactic| (refine pyReprObj_str (hx := ?hx) ?_; (case hx => (rw [PySem.sizeLine_eq]; omega))))
local macro_rules | `(tactic| walk_at "compareOp NotEq str str") => `(tactic| first | refine ne_strs_true (by assumption) ?_ | refine ne_strs_false ?_)
local macro_rules | `(tactic| walk_at "SrcLP") => `(tactic| (k_here; k_dflt (refine LCp.SrcLP.ledger (by rfl) (by k_asm) (by k_asm) (by k_mem) (by (simp only [List.size_toArray, PySem.sizeLine_eq]; omega)) ?_; intro g'; (rename Secs _ _ _ => hsec'); refine rest_snd (by rfl) (by rfl) (by decide) (.inr ⟨_, by k_mem, rfl, _, rfl⟩) _ _ 0 [] (hsec'.mono (fun p hp => (by simp only [List.mem_cons]; first | exact hp | exact .inr hp | exact .inr (.inr hp) | exact .inr (.inr (.inr hp)) | exact .inr (.inr (.inr (.inr hp))) | exact .inr (.inr (.inr (.inr (.inr hp))))))) (fun j v hj => by simpa using hj) ?_); intro D' h' tk' F' N' off'; (try simp only [LCg.Off1] at off')))
local macro_rules | `(tactic| walk_at "call builtin:len") => `(tactic| (k_here; (with_reducible show wpAny _ _ (call (Value.builtin "len") [Value.ref _]) _ _ _); k_dflt (refine' len_ba_K ?N ?m ?_; (case N => k_asm); (case m => k_mem))))
local macro_rules | `(tactic| walk_at "compareOp In int bytes") => `(tactic| (k_here; refine in_bytes_true (by decide +kernel) (by decide +kernel) (by decide +kernel) ?_))
local macro_rules | `(tactic| walk_at "truthy bytes") => `(tactic| (k_here; refine truthy_b0 ?_))
local macro_rules | `(tactic| walk_at "UnrEnd") => `(tactic| (k_here; k_dflt (refine UnrEnd.intro (by assumption) (by assumption) _ (fun p hp => hp) (my_off (by assumption)) ?_)))
local macro_rules | `(tactic| walk_at "exec While UnaryOp cons nil") => `(tactic| (k_here; k_dflt (refine whl_start 4 ?_)))
local macro_rules | `(tactic| walk_at "subscriptTail Name Name ref int") => `(tactic| (k_here; (with_reducible show wpAny _ _ (subscriptTail _ _ (Value.ref _) (Value.int _ _)) _ _ _); k_dflt (refine' item_any ?N ?m ?x ?a ?z ?s ?_; (case N => k_asm); (case m => k_mem); (case x => assumption); (case a => first | assumption | omega); (case z => (first | assumption | omega | (simp only [List.length_cons, List.length_nil, List.length_append, List.length_take, List.length_drop]; omega))); (case s => with_unfolding_all rfl))))
local macro_rules | `(tactic| walk_at "subscriptTail Name BinOp ref int") => `(tactic| (k_here; (with_reducible show wpAny _ _ (subscriptTail _ _ (Value.ref _) (Value.int _ _)) _ _ _); k_dflt (refine' item_any ?N ?m ?x ?a ?z ?s ?_; (case N => k_asm); (case m => k_mem); (case x => assumption); (case a => first | assumption | omega); (case z => (first | assumption | omega | (simp only [List.length_cons, List.length_nil, List.length_append, List.length_take, List.length_drop]; omega))); (case s => with_unfolding_all rfl))))
local macro_rules | `(tactic| k_all) => `(tactic| assumption)
local macro_rules | `(tactic| k_ne) => `(tactic| (refine neN ?_; (try dsimp only); first | (refine Off.l (by assumption) ?_; k_memK; done) | (refine Off.r (by assumption) ?_; k_memK; done) | fail))
local macro_rules | `(tactic| walk_at "call ref") => `(tactic| (k_here; (with_reducible show wpAny _ _ (call (Value.ref 1649) _ []) _ _ _); k_dflt (refine' endedNoU ?zzB ?zzF ?zzX ?zzT ?zzN ?zzm1 ?zzm2 ?zzc ?zzk ?zzr ?zzr2 ?_; (case zzB => assumption); (case zzF => k_asm); (case zzX => assumption); (case zzT => assumption); (case zzN => k_asm); (case zzm1 => k_mem); (case zzm2 => k_mem); (case zzc => assumption); (case zzk => assumption); (case zzr => assumption); (case zzr2 => assumption)); intro h' tk' F' N'; (try dsimp only at N')))
local macro_rules | `(tactic| walk_at "compareOp Eq str str") => `(tactic| (k_here; first | refine eq_strs_false (by assumption) ?_ | refine eq_strs_true ?_))
section
variable {w : World} {E : Value → Shared → Prop} {Q : Flow → Shared → Prop} {s : Shared} {h₀ : Heap} {L fa : Addr} {cd : Value} {u : Str → Option Value}
  {p : Program} {loose : List Str} {mean : ExcName → Option Value} {mg mb : Str → Option Value} {tl : List (Addr × Obj)} {RW KD WT P D CX CU RS T1 T2 : Addr} {ls : List Lev} {cur wvs : List Value} {nR nK nW nX nC nS : Nat} {d : PD} {oCE : Obj} {ta td0 tp tb td tr a1 b1 b2 : Tok} {r dd bg : Int} {kd : Value} {bx nx : Option Value}
theorem deedEndB {j : Nat} {k lk : Str} {tk1 ltk ltk2 tm : Tok} {MA : Addr} {pos : Int} {km : Nat} (B : Below callerA h₀ [] h₀) (X : (K w.params).In h₀) (T : Top p loose mean mg mb h₀) (F : Fr h₀ L s.heap (fun y => if y = Str.ofString "first" then some (Value.ref T1) else if y = Str.ofString "second" then some (Value.ref T2) else if y = Str.ofString "kind" then some (Value.str k tk1) else if y = Str.ofString "begin" then some (Value.int ((j : Int) - 1) tb) else if y = Str.ofString "deed" then some (Value.int 4 td) else if y = Str.ofString "rest" then some (Value.int r tr) else if y = Str.ofString "rest" then bx else if y = Str.ofString "number" then nx else if y = Str.ofString "row" then some (Value.ref RW) else if y = Str.ofString "waiting" then some (Value.ref WT) else if y = Str.ofString "kinds" then some (Value.ref KD) else u y))
    (N : News h₀ L s.heap ((MA, ({ cls := .type "tuple", data := .seq #[Value.none, .int pos tm, .str lk ltk] km } : Obj)) :: (T2, ({ cls := .type "tuple", data := .seq #[.int (r.fmod 50 + 1) b1, .int (r + 1) b2] 0 } : Obj)) :: (T1, ({ cls := .type "tuple", data := .seq #[.int (r.fmod 50) a1, .int r tr] 0 } : Obj)) :: (RW, listOf (rowOf ls cur).toArray nR) :: (KD, listOf #[.str (Str.ofString "a") ta, .str (Str.ofString "d") td0, .str (Str.ofString "p") tp] nK) :: (WT, listOf wvs.toArray nW) :: (P, instObj 1367 D) :: (D, dictOf (d.es w) 13) :: (CX, listOf (ctxOf ls).toArray nX) :: (CU, listOf cur.toArray nC) :: (RS, listOf wvs.toArray nS) :: (L + 1, oCE) :: tl)) (l1 : (@LT.lt Nat _ (RW) T1 ∧ @LT.lt Nat _ (KD) T1 ∧ @LT.lt Nat _ (WT) T1 ∧ @LT.lt Nat _ (P) T1 ∧ @LT.lt Nat _ (D) T1 ∧ @LT.lt Nat _ (CX) T1 ∧ @LT.lt Nat _ (CU) T1 ∧ @LT.lt Nat _ (RS) T1 ∧ @LT.lt Nat _ (L + 1) T1 ∧ AllLt T1 tl)) (l2 : @LT.lt Nat _ T1 T2 ∧ @LT.lt Nat _ (RW) T2 ∧ @LT.lt Nat _ (KD) T2 ∧ @LT.lt Nat _ (WT) T2 ∧ @LT.lt Nat _ (P) T2 ∧ @LT.lt Nat _ (D) T2 ∧ @LT.lt Nat _ (CX) T2 ∧ @LT.lt Nat _ (CU) T2 ∧ @LT.lt Nat _ (RS) T2 ∧ @LT.lt Nat _ (L + 1) T2 ∧ AllLt T2 tl)
    (hce : oCE.data = .cell (some (.ref P))) (hlen : (rowOf ls cur).length ≤ 100) (hwl : wvs.length ≤ 100) (hcl : cur.length ≤ 100) (hr : 0 ≤ r) (hr2 : r < 10000) (hct : d.curtype = .str lk ltk2) (hne : lk ≠ k) (hbg : 0 ≤ (j : Int) - 1) (hkr : (reprText k).length ≤ 100) (hkr2 : (reprText lk).length ≤ 100) (hxM : (rowOf ls cur)[((j : Int) - 1).toNat]? = some (Value.ref MA))
    (h : ∀ h' tk m' , Fr h₀ L h' m' → m' (Str.ofString "row") = some (.ref RW) → m' (Str.ofString "waiting") = some (.ref WT) → m' (Str.ofString "kinds") = some (.ref KD) → News h₀ L h' ((MA, ({ cls := .type "tuple", data := .seq #[Value.none, .int pos tm, .str lk ltk] km } : Obj)) :: (T2, ({ cls := .type "tuple", data := .seq #[.int (r.fmod 50 + 1) b1, .int (r + 1) b2] 0 } : Obj)) :: (T1, ({ cls := .type "tuple", data := .seq #[.int (r.fmod 50) a1, .int r tr] 0 } : Obj)) :: (RW, listOf (rowOf ls cur).toArray nR) :: (KD, listOf #[.str (Str.ofString "a") ta, .str (Str.ofString "d") td0, .str (Str.ofString "p") tp] nK) :: (WT, listOf wvs.toArray nW) :: (P, instObj 1367 D) :: (D, dictOf (d.es w) 13) :: (CX, listOf (ctxOf ls).toArray nX) :: (CU, listOf cur.toArray nC) :: (RS, listOf wvs.toArray nS) :: (L + 1, oCE) :: tl) → Q .next { s with heap := h', toks := tk }) :
    wpAny (model PySem.Challenge.rw_ae5031_04.row.prog w) (callerA.deeper (envOfC (Str.ofString "law") lawScope L fa cd)) (exec chain (envOfC (Str.ofString "law") lawScope L fa cd)) (fun f s' => match f with | .next => wpAny (model PySem.Challenge.rw_ae5031_04.row.prog w) (callerA.deeper (envOfC (Str.ofString "law") lawScope L fa cd)) (execs [] (envOfC (Str.ofString "law") lawScope L fa cd)) Q E s' | f => Q f s') E s := by
  revert X
  k_fill
  intro X
  unfold chain
  k_steps
  refine' h _ _ _  ?zF ?zr ?zw ?zk ?zN 
  (case zF => assumption)
  (case zr => first | rfl | decide)
  (case zw => first | rfl | decide)
  (case zk => first | rfl | decide)
  (case zN => (refine news_sub (by assumption) ?_; (repeat' (first | exact fun p hp => hp | (refine sub_cons (by k_memK) ?_) | (refine sub_tail ?_)))))
end
end Mine
end
section
theorem Mine.freshDendC4 : True := by
  run_tac (do PyProof.Rows.walkLines.set (0, {}); PyProof.Rows.walkHit.set {}; PyProof.Rows.walkTop.set false; PyProof.Rows.walkStart.set 0; PyProof.Rows.walkLate.set false)
  trivial
open PySem PySem.W PySem.Calls PyProof.Rows
set_option Elab.async false
set_option maxRecDepth 100000
set_option maxHeartbeats 4000000
set_option linter.unusedVariables false
set_option linter.unusedSimpArgs false
namespace Mine
local macro_rules | `(tactic| walk_at "last subscriptTail") => `(tactic| (k_here; (with_reducible show wpAny _ _ (subscriptTail _ (PySem.Expr.Slice _ _ none _) (Value.ref _) (Value.ref _)) _ _ _); k_dflt (refine' slice_any ?F ?N ?l ?p ?q ?e ?_ ?s ?t ?z; (case F => k_asm); (case N => k_asm); (case l => k_mem); (case p => kmk_part); (case q => kmk_part); (case e => (first | exact pick_from (by omega) | exact pick_upto (by omega) | exact pick_neg (by first | omega | (refine Int.neg_neg_of_pos ?_; omega)))); (case s => with_unfolding_all rfl); (case t => kmk_pure); (case z => (first | assumption | omega | (simp only [List.length_cons, List.length_nil, List.length_append, List.length_take, List.length_drop]; omega)))); intro D' h' F' N' l1; (try k_lt l1); (try k_sweep)))
local macro_rules | `(tactic| walk_at "subscriptTail Name Slice ref ref") => `(tactic| (k_here; (with_reducible show wpAny _ _ (subscriptTail _ (PySem.Expr.Slice _ _ none _) (Value.ref _) (Value.ref _)) _ _ _); k_dflt (refine' slice_any ?F ?N ?l ?p ?q ?e ?_ ?s ?t ?z; (case F => k_asm); (case N => k_asm); (case l => k_mem); (case p => kmk_part); (case q => kmk_part); (case e => (first | exact pick_from (by omega) | exact pick_upto (by omega) | exact pick_neg (by first | omega | (refine Int.neg_neg_of_pos ?_; omega)))); (case s => with_unfolding_all rfl); (case t => kmk_pure); (case z => (first | assumption | omega | (simp only [List.length_cons, List.length_nil, List.length_append, List.length_take, List.length_drop]; omega)))); intro D' h' F' N' l1; (try k_lt l1); (try k_sweep)))
local macro_rules | `(tactic| walk_at "setItem ref") => `(tactic| (k_here; k_dflt (refine' setSlice_neg ?F ?N ?b ?ne ?U ?x ?z ?_; (case F => k_asm); (case N => k_asm); (case b => k_mem); (case ne => k_ne); (case U => k_upd); (case x => (first | omega | (refine Int.neg_neg_of_pos ?_; omega))); (case z => (first | assumption | omega | (simp only [List.length_cons, List.length_nil, List.length_append, List.length_take, List.length_drop]; omega)))); intro h' F' N'; (try k_sweep)))
local macro_rules | `(tactic| walk_at "call builtin:len") => `(tactic| (k_here; (with_reducible show wpAny _ _ (call (Value.builtin "len") [Value.ref _]) _ _ _); k_dflt (refine' len_any ?N ?m ?z ?_; (case N => k_asm); (case m => k_mem); (case z => (first | assumption | omega | (simp only [List.length_cons, List.length_nil, List.length_append, List.length_take, List.length_drop]; omega))))))
local macro_rules | `(tactic| walk_at "truthy ref") => `(tactic| (k_here; k_dflt (refine' truthy_any ?N ?m ?z ?_; (case N => k_asm); (case m => k_mem); (case z => (first | assumption | omega | (simp only [List.length_cons, List.length_nil, List.length_append, List.length_take, List.length_drop]; omega)))); (try simp only [List.isEmpty_cons, List.isEmpty_nil, Bool.not_false, Bool.not_true])))
local macro_rules | `(tactic| walk_at "call builtin:list.pop") => `(tactic| (k_here; k_dflt (first | (refine' pop_last ?F ?N ?U ?z ?_; (case F => k_asm); (case N => k_asm); (case U => k_upd); (case z => (first | assumption | omega | (simp only [List.length_cons, List.length_nil, List.length_append, List.length_take, List.length_drop]; omega)))) | (refine' pop_first ?F ?N ?U ?z ?_; (case F => k_asm); (case N => k_asm); (case U => k_upd); (case z => (first | assumption | omega | (simp only [List.length_cons, List.length_nil, List.length_append, List.length_take, List.length_drop]; omega))))); intro h' F' N'; (try k_sweep)))
local macro_rules | `(tactic| walk_at "pyReprObj str") => `(tactic| (refine pyReprObj_str (hx := ?hx) ?_; (case hx => (rw [PySem.sizeLine_eq]; omega))))
local macro_rules | `(tactic| walk_at "compareOp NotEq str str") => `(tactic| first | refine ne_strs_true (by assumption) ?_ | refine ne_strs_false ?_)
local macro_rules | `(tactic| walk_at "SrcLP") => `(tactic| (k_here; k_dflt (refine LCp.SrcLP.ledger (by rfl) (by k_asm) (by k_asm) (by k_mem) (by (simp only [List.size_toArray, PySem.sizeLine_eq]; omega)) ?_; intro g'; (rename Secs _ _ _ => hsec'); refine rest_snd (by rfl) (by rfl) (by decide) (.inr ⟨_, by k_mem, rfl, _, rfl⟩) _ _ 0 [] (hsec'.mono (fun p hp => (by simp only [List.mem_cons]; first | exact hp | exact .inr hp | exact .inr (.inr hp) | exact .inr (.inr (.inr hp)) | exact .inr (.inr (.inr (.inr hp))) | exact .inr (.inr (.inr (.inr (.inr hp))))))) (fun j v hj => by simpa using hj) ?_); intro D' h' tk' F' N' off'; (try simp only [LCg.Off1] at off')))
local macro_rules | `(tactic| walk_at "call builtin:len") => `(tactic| (k_here; (with_reducible show wpAny _ _ (call (Value.builtin "len") [Value.ref _]) _ _ _); k_dflt (refine' len_ba_K ?N ?m ?_; (case N => k_asm); (case m => k_mem))))
local macro_rules | `(tactic| walk_at "compareOp In int bytes") => `(tactic| (k_here; refine in_bytes_true (by decide +kernel) (by decide +kernel) (by decide +kernel) ?_))
local macro_rules | `(tactic| walk_at "truthy bytes") => `(tactic| (k_here; refine truthy_b0 ?_))
local macro_rules | `(tactic| walk_at "UnrEnd") => `(tactic| (k_here; k_dflt (refine UnrEnd.intro (by assumption) (by assumption) _ (fun p hp => hp) (my_off (by assumption)) ?_)))
local macro_rules | `(tactic| walk_at "exec While UnaryOp cons nil") => `(tactic| (k_here; k_dflt (refine whl_start 4 ?_)))
local macro_rules | `(tactic| walk_at "subscriptTail Name Name ref int") => `(tactic| (k_here; (with_reducible show wpAny _ _ (subscriptTail _ _ (Value.ref _) (Value.int _ _)) _ _ _); k_dflt (refine' item_any ?N ?m ?x ?a ?z ?s ?_; (case N => k_asm); (case m => k_mem); (case x => assumption); (case a => first | assumption | omega); (case z => (first | assumption | omega | (simp only [List.length_cons, List.length_nil, List.length_append, List.length_take, List.length_drop]; omega))); (case s => with_unfolding_all rfl))))
local macro_rules | `(tactic| walk_at "subscriptTail Name BinOp ref int") => `(tactic| (k_here; (with_reducible show wpAny _ _ (subscriptTail _ _ (Value.ref _) (Value.int _ _)) _ _ _); k_dflt (refine' item_any ?N ?m ?x ?a ?z ?s ?_; (case N => k_asm); (case m => k_mem); (case x => assumption); (case a => first | assumption | omega); (case z => (first | assumption | omega | (simp only [List.length_cons, List.length_nil, List.length_append, List.length_take, List.length_drop]; omega))); (case s => with_unfolding_all rfl))))
local macro_rules | `(tactic| k_all) => `(tactic| assumption)
local macro_rules | `(tactic| k_ne) => `(tactic| (refine neN ?_; (try dsimp only); first | (refine Off.l (by assumption) ?_; k_memK; done) | (refine Off.r (by assumption) ?_; k_memK; done) | fail))
local macro_rules | `(tactic| walk_at "compareOp Eq str str") => `(tactic| (k_here; first | refine eq_strs_false (by assumption) ?_ | refine eq_strs_true ?_))
local macro_rules | `(tactic| walk_at "binaryOp Add ref ref") => `(tactic| (k_here; (with_reducible show wpAny _ _ (binaryOp _ (Value.ref _) (Value.ref _)) _ _ _); k_dflt (refine' add_any ?F ?N ?a ?b ?z ?_; (case F => k_asm); (case N => k_asm); (case a => k_mem); (case b => k_mem); (case z => (first | assumption | omega | (simp only [List.length_cons, List.length_nil, List.length_append, List.length_take, List.length_drop]; omega)))); intro D' h' F' N' l1; (try k_lt l1); (try k_sweep)))
local macro_rules | `(tactic| walk_at "call ref") => `(tactic| (k_here; (with_reducible show wpAny _ _ (call (Value.ref 1319) [Value.ref _, Value.ref _] []) _ _ _); k_dflt (refine' push1U ?zzB ?zzF ?zzX ?zzT ?zzN ?zzm1 ?zzm2 ?zzU ?zzc ?zzz ?_; (case zzB => assumption); (case zzF => k_asm); (case zzX => assumption); (case zzT => assumption); (case zzN => k_asm); (case zzm1 => k_mem); (case zzm2 => k_mem); (case zzc => first | assumption | rfl); (case zzU => k_updF); (case zzz => (first | assumption | omega | (simp only [List.length_cons, List.length_nil, List.length_append, List.length_take, List.length_drop]; omega)))); intro h' tk' F' N'; (try dsimp only at N')))
local macro_rules | `(tactic| walk_at "call ref") => `(tactic| (k_here; (with_reducible show wpAny _ _ (call (Value.ref 1649) _ []) _ _ _); k_dflt (refine' endedOkU ?zzB ?zzF ?zzX ?zzT ?zzN ?zzm1 ?zzm4 ?zzm5 ?zzU ?zzU2 ?zzc1 ?zzc2 ?zzc3 ?zzn ?zzct ?zzs ?zzz ?zzz2 ?_; (case zzB => assumption); (case zzF => k_asm); (case zzX => assumption); (case zzT => assumption); (case zzN => k_asm); (case zzm1 => k_mem); (case zzU => k_updF); (case zzc1 => first | assumption | rfl); (case zzc2 => assumption); (case zzc3 => assumption); (case zzU2 => (intro o9; k_updF)); (case zzm4 => k_mem); (case zzm5 => k_mem); (case zzn => k_ne); (case zzct => assumption); (case zzs => (refine (by assumption : Secs _ _ _).mono ?_; intro p hp; simp only [List.mem_cons, hp, or_true])); (case zzz => (first | assumption | omega | (simp only [List.length_cons, List.length_nil, List.length_append, List.length_take, List.length_drop]; omega))); (case zzz2 => (first | assumption | omega | (simp only [List.length_cons, List.length_nil, List.length_append, List.length_take, List.length_drop]; omega)))); intro h' tk' T9 O9 F' N' l1 l2 l3; (try k_lt l3); (replace l2 := ltN l2); (try dsimp only at N')))
local macro_rules | `(tactic| walk_at "compareOp NotEq ref ref") => `(tactic| (k_here; (with_reducible show wpAny _ _ (compareOp CmpOp.NotEq (Value.ref _) (Value.ref _)) _ _ _); k_dflt (refine' ne_pairL ?zN ?za ?zb ?zc ?zd ?zf ?ze ?zu ?_; (case zN => k_asm); (case za => k_mem); (case zb => k_mem); (case zc => k_mem); (case zd => k_mem); (case zf => exact rfl); (case ze => k_ne); (case zu => exact Nat.le_of_ble_eq_true rfl))))
local macro_rules | `(tactic| walk_at "last subscriptTail") => `(tactic| (k_here; (with_reducible show wpAny _ _ (subscriptTail _ (PySem.Expr.Slice _ _ none _) (Value.ref _) (Value.ref _)) _ _ _); k_dflt (refine' slice_any ?F ?N ?l ?p ?q ?e ?_ ?s ?t ?z; (case F => k_asm); (case N => k_asm); (case l => k_mem); (case p => kmk_part); (case q => kmk_part); (case e => first | exact (pick_from (by omega)).trans (congrArg List.toArray (by assumption)) | exact (pick_upto (by assumption)).trans (congrArg List.toArray (by assumption))); (case s => with_unfolding_all rfl); (case t => kmk_pure); (case z => (first | assumption | omega | (simp only [List.length_cons, List.length_nil, List.length_append, List.length_take, List.length_drop]; omega)))); intro D' h' F' N' l1; (try k_lt l1); (try k_sweep)))
local macro_rules | `(tactic| walk_at "subscriptTail Name Slice ref ref") => `(tactic| (k_here; (with_reducible show wpAny _ _ (subscriptTail _ (PySem.Expr.Slice _ _ none _) (Value.ref _) (Value.ref _)) _ _ _); k_dflt (refine' slice_any ?F ?N ?l ?p ?q ?e ?_ ?s ?t ?z; (case F => k_asm); (case N => k_asm); (case l => k_mem); (case p => kmk_part); (case q => kmk_part); (case e => first | exact (pick_from (by omega)).trans (congrArg List.toArray (by assumption)) | exact (pick_upto (by assumption)).trans (congrArg List.toArray (by assumption))); (case s => with_unfolding_all rfl); (case t => kmk_pure); (case z => (first | assumption | omega | (simp only [List.length_cons, List.length_nil, List.length_append, List.length_take, List.length_drop]; omega)))); intro D' h' F' N' l1; (try k_lt l1); (try k_sweep)))
local macro_rules | `(tactic| walk_at "eval ListComp") => `(tactic| (k_here; k_dflt (refine LCg.ListComp_U (F₀ := by k_asm) (by with_unfolding_all rfl) (by decide) (by rfl) (by decide) (by rfl) ?_)))
local macro_rules | `(tactic| walk_at "CompSrc") => `(tactic| (k_here; k_dflt (refine LCg.CompSrc.ledger (by rfl) (by k_asm) (by k_asm) (by k_mem) (by (simp only [List.size_toArray, PySem.sizeLine_eq]; omega)) ?_; intro g'; (rename Secs _ _ _ => hsec'); refine rest_item1 (by rfl) (by rfl) (by decide) (.inr ⟨_, by k_mem, rfl, _, rfl⟩) _ _ 0 [] (hsec'.mono (fun p hp => (by simp only [List.mem_cons, hp, or_true]))) (fun j v hj => by simpa using hj) ?_); intro D' h' tk' F' N' off'; (try simp only [LCg.Off1] at off')))
local macro_rules | `(tactic| k_ne) => `(tactic| (refine neN ?_; (try dsimp only); first | (refine' OffN.r ?zzh ?zzm; (case zzh => assumption); (case zzm => k_mem); done) | (refine' OffN.l ?zzh ?zzm; (case zzh => assumption); (case zzm => k_mem); done) | fail))
section
variable {w : World} {E : Value → Shared → Prop} {Q : Flow → Shared → Prop} {s : Shared} {h₀ : Heap} {L fa : Addr} {cd : Value} {u : Str → Option Value}
  {p : Program} {loose : List Str} {mean : ExcName → Option Value} {mg mb : Str → Option Value} {tl : List (Addr × Obj)} {RW KD WT P D CX CU RS T1 T2 : Addr} {ls : List Lev} {cur wvs : List Value} {nR nK nW nX nC nS : Nat} {d : PD} {oCE : Obj} {ta td0 tp tb td tr a1 b1 b2 : Tok} {r dd bg : Int} {kd : Value} {bx nx : Option Value}
theorem deedEndC4 {j : Nat} {k : Str} {tk1 ltk ltk2 tm tq : Tok} {MA CA LA : Addr} {pos : Int} {km nL : Nat} {items cs ss rowo : List Value} {ct : Value} (B : Below callerA h₀ [] h₀) (X : (K w.params).In h₀) (T : Top p loose mean mg mb h₀) (F : Fr h₀ L s.heap (fun y => if y = Str.ofString "first" then some (Value.ref T1) else if y = Str.ofString "second" then some (Value.ref T2) else if y = Str.ofString "kind" then some (Value.str k tk1) else if y = Str.ofString "begin" then some (Value.int ((j : Int) - 1) tb) else if y = Str.ofString "deed" then some (Value.int 4 td) else if y = Str.ofString "rest" then some (Value.int r tr) else if y = Str.ofString "rest" then bx else if y = Str.ofString "number" then nx else if y = Str.ofString "row" then some (Value.ref RW) else if y = Str.ofString "waiting" then some (Value.ref WT) else if y = Str.ofString "kinds" then some (Value.ref KD) else u y))
    (N : News h₀ L s.heap ((LA, listOf items.toArray nL) :: (CA, ({ cls := .type "tuple", data := .seq #[Value.int pos tq, ct, Value.ref LA] 0 } : Obj)) :: (MA, ({ cls := .type "tuple", data := .seq #[Value.none, .int pos tm, .str k ltk] km } : Obj)) :: (T2, ({ cls := .type "tuple", data := .seq #[.int (r.fmod 50 + 1) b1, .int (r + 1) b2] 0 } : Obj)) :: (T1, ({ cls := .type "tuple", data := .seq #[.int (r.fmod 50) a1, .int r tr] 0 } : Obj)) :: (RW, listOf (rowOf ls cur).toArray nR) :: (KD, listOf #[.str (Str.ofString "a") ta, .str (Str.ofString "d") td0, .str (Str.ofString "p") tp] nK) :: (WT, listOf wvs.toArray nW) :: (P, instObj 1367 D) :: (D, dictOf (d.es w) 13) :: (CX, listOf (cs ++ [Value.ref CA]).toArray nX) :: (CU, listOf cur.toArray nC) :: (RS, listOf wvs.toArray nS) :: (L + 1, oCE) :: tl)) (l1 : (@LT.lt Nat _ (RW) T1 ∧ @LT.lt Nat _ (KD) T1 ∧ @LT.lt Nat _ (WT) T1 ∧ @LT.lt Nat _ (P) T1 ∧ @LT.lt Nat _ (D) T1 ∧ @LT.lt Nat _ (CX) T1 ∧ @LT.lt Nat _ (CU) T1 ∧ @LT.lt Nat _ (RS) T1 ∧ @LT.lt Nat _ (L + 1) T1 ∧ AllLt T1 tl)) (l2 : @LT.lt Nat _ T1 T2 ∧ @LT.lt Nat _ (RW) T2 ∧ @LT.lt Nat _ (KD) T2 ∧ @LT.lt Nat _ (WT) T2 ∧ @LT.lt Nat _ (P) T2 ∧ @LT.lt Nat _ (D) T2 ∧ @LT.lt Nat _ (CX) T2 ∧ @LT.lt Nat _ (CU) T2 ∧ @LT.lt Nat _ (RS) T2 ∧ @LT.lt Nat _ (L + 1) T2 ∧ AllLt T2 tl)
    (hce : oCE.data = .cell (some (.ref P))) (hlen : (rowOf ls cur).length ≤ 100) (hwl : wvs.length ≤ 100) (hcl : cur.length ≤ 100) (hr : 0 ≤ r) (hr2 : r < 10000) (hct : d.curtype = .str k ltk2) (hcx : d.context = .ref CX) (hcu : d.curstack = .ref CU) (hctv : ct = .none ∨ ∃ k t, ct = .str k t) (hbg : 0 ≤ (j : Int) - 1) (hxM : (rowOf ls cur)[((j : Int) - 1).toNat]? = some (Value.ref MA)) (hd1 : (rowOf ls cur).drop ((j : Int) - 1 + 1).toNat = cur) (hd2 : (rowOf ls cur).take ((j : Int) - 1).toNat = rowo) (hrl : rowo.length ≤ 100) (hil : items.length ≤ 100) (hsl : cs.length ≤ 100) (hsec : Secs tl cur ss) (nLT1 : @LT.lt Nat _ LA T1) (nLT2 : @LT.lt Nat _ LA T2) (nCT1 : @LT.lt Nat _ CA T1) (nCT2 : @LT.lt Nat _ CA T2) (nMT1 : @LT.lt Nat _ MA T1) (nMT2 : @LT.lt Nat _ MA T2) (oLA : Off LA [RW, KD, WT, P, D, CX, CU, RS, L + 1, MA, CA]) (tLA : ∀ p ∈ tl, p.1 ≠ LA) (oMA : Off MA [D, CX]) (oCA : Off CA [D, CX])
    (oD : Off D [RW, KD, WT, P, CX, CU, RS, L + 1]) (tD : ∀ p ∈ tl, p.1 ≠ D) (oCX : Off CX [RW, KD, WT, P, D, CU, RS, L + 1]) (tCX : ∀ p ∈ tl, p.1 ≠ CX)
    (h : ∀ h' tk m' RW' DUE DL, Fr h₀ L h' m' → m' (Str.ofString "row") = some (.ref RW') → m' (Str.ofString "waiting") = some (.ref WT) → m' (Str.ofString "kinds") = some (.ref KD) → News h₀ L h' ((RW', listOf (rowo ++ [Value.ref DUE]).toArray 0) :: (DUE, ({ cls := .type "tuple", data := .seq #[.int pos tm, Value.ref DL] 0 } : Obj)) :: (LA, listOf (items ++ [Value.ref DUE]).toArray (nL + 1)) :: (KD, listOf #[.str (Str.ofString "a") ta, .str (Str.ofString "d") td0, .str (Str.ofString "p") tp] nK) :: (WT, listOf wvs.toArray nW) :: (P, instObj 1367 D) :: (D, dictOf (PD.es w { d with curtype := ct, curstack := .ref LA }) 13) :: (CX, listOf cs.toArray (nX + 1)) :: (RS, listOf wvs.toArray nS) :: (L + 1, oCE) :: tl) → (@Ne Nat KD RW' ∧ @Ne Nat WT RW' ∧ @Ne Nat CX RW' ∧ @Ne Nat RS RW' ∧ @Ne Nat LA RW') → (∀ p ∈ tl, p.1 ≠ RW') → (∀ p ∈ tl, p.1 ≠ DUE) → Q .next { s with heap := h', toks := tk }) :
    wpAny (model PySem.Challenge.rw_ae5031_04.row.prog w) (callerA.deeper (envOfC (Str.ofString "law") lawScope L fa cd)) (exec chain (envOfC (Str.ofString "law") lawScope L fa cd)) (fun f s' => match f with | .next => wpAny (model PySem.Challenge.rw_ae5031_04.row.prog w) (callerA.deeper (envOfC (Str.ofString "law") lawScope L fa cd)) (execs [] (envOfC (Str.ofString "law") lawScope L fa cd)) Q E s' | f => Q f s') E s := by
  revert X
  k_fill
  intro X
  unfold chain
  k_steps
  refine' h _ _ _ _ _ _ ?zF ?zr ?zw ?zk ?zN ?y1 ?y2 ?y3
  (case zF => assumption)
  (case zr => first | rfl | decide)
  (case zw => first | rfl | decide)
  (case zk => first | rfl | decide)
  (case zN => (refine news_sub (by assumption) ?_; (repeat' (first | exact fun p hp => hp | (refine sub_cons (by k_memK) ?_) | (refine sub_tail ?_)))))
  (case y1 => (refine ⟨?_, ?_, ?_, ?_, ?_⟩ <;> k_ne))
  (case y2 => k_all)
  (case y3 => k_all)
end
end Mine
end
section
theorem Mine.freshDendC5 : True := by
  run_tac (do PyProof.Rows.walkLines.set (0, {}); PyProof.Rows.walkHit.set {}; PyProof.Rows.walkTop.set false; PyProof.Rows.walkStart.set 0; PyProof.Rows.walkLate.set false)
  trivial
open PySem PySem.W PySem.Calls PyProof.Rows
set_option Elab.async false
set_option maxRecDepth 100000
set_option maxHeartbeats 4000000
set_option linter.unusedVariables false
set_option linter.unusedSimpArgs false
namespace Mine
local macro_rules | `(tactic| walk_at "last subscriptTail") => `(tactic| (k_here; (with_reducible show wpAny _ _ (subscriptTail _ (PySem.Expr.Slice _ _ none _) (Value.ref _) (Value.ref _)) _ _ _); k_dflt (refine' slice_any ?F ?N ?l ?p ?q ?e ?_ ?s ?t ?z; (case F => k_asm); (case N => k_asm); (case l => k_mem); (case p => kmk_part); (case q => kmk_part); (case e => (first | exact pick_from (by omega) | exact pick_upto (by omega) | exact pick_neg (by first | omega | (refine Int.neg_neg_of_pos ?_; omega)))); (case s => with_unfolding_all rfl); (case t => kmk_pure); (case z => (first | assumption | omega | (simp only [List.length_cons, List.length_nil, List.length_append, List.length_take, List.length_drop]; omega)))); intro D' h' F' N' l1; (try k_lt l1); (try k_sweep)))
local macro_rules | `(tactic| walk_at "subscriptTail Name Slice ref ref") => `(tactic| (k_here; (with_reducible show wpAny _ _ (subscriptTail _ (PySem.Expr.Slice _ _ none _) (Value.ref _) (Value.ref _)) _ _ _); k_dflt (refine' slice_any ?F ?N ?l ?p ?q ?e ?_ ?s ?t ?z; (case F => k_asm); (case N => k_asm); (case l => k_mem); (case p => kmk_part); (case q => kmk_part); (case e => (first | exact pick_from (by omega) | exact pick_upto (by omega) | exact pick_neg (by first | omega | (refine Int.neg_neg_of_pos ?_; omega)))); (case s => with_unfolding_all rfl); (case t => kmk_pure); (case z => (first | assumption | omega | (simp only [List.length_cons, List.length_nil, List.length_append, List.length_take, List.length_drop]; omega)))); intro D' h' F' N' l1; (try k_lt l1); (try k_sweep)))
local macro_rules | `(tactic| walk_at "setItem ref") => `(tactic| (k_here; k_dflt (refine' setSlice_neg ?F ?N ?b ?ne ?U ?x ?z ?_; (case F => k_asm); (case N => k_asm); (case b => k_mem); (case ne => k_ne); (case U => k_upd); (case x => (first | omega | (refine Int.neg_neg_of_pos ?_; omega))); (case z => (first | assumption | omega | (simp only [List.length_cons, List.length_nil, List.length_append, List.length_take, List.length_drop]; omega)))); intro h' F' N'; (try k_sweep)))
local macro_rules | `(tactic| walk_at "call builtin:len") => `(tactic| (k_here; (with_reducible show wpAny _ _ (call (Value.builtin "len") [Value.ref _]) _ _ _); k_dflt (refine' len_any ?N ?m ?z ?_; (case N => k_asm); (case m => k_mem); (case z => (first | assumption | omega | (simp only [List.length_cons, List.length_nil, List.length_append, List.length_take, List.length_drop]; omega))))))
local macro_rules | `(tactic| walk_at "truthy ref") => `(tactic| (k_here; k_dflt (refine' truthy_any ?N ?m ?z ?_; (case N => k_asm); (case m => k_mem); (case z => (first | assumption | omega | (simp only [List.length_cons, List.length_nil, List.length_append, List.length_take, List.length_drop]; omega)))); (try simp only [List.isEmpty_cons, List.isEmpty_nil, Bool.not_false, Bool.not_true])))
local macro_rules | `(tactic| walk_at "call builtin:list.pop") => `(tactic| (k_here; k_dflt (first | (refine' pop_last ?F ?N ?U ?z ?_; (case F => k_asm); (case N => k_asm); (case U => k_upd); (case z => (first | assumption | omega | (simp only [List.length_cons, List.length_nil, List.length_append, List.length_take, List.length_drop]; omega)))) | (refine' pop_first ?F ?N ?U ?z ?_; (case F => k_asm); (case N => k_asm); (case U => k_upd); (case z => (first | assumption | omega | (simp only [List.length_cons, List.length_nil, List.length_append, List.length_take, List.length_drop]; omega))))); intro h' F' N'; (try k_sweep)))
local macro_rules | `(tactic| walk_at "pyReprObj str") => `(tactic| (refine pyReprObj_str (hx := ?hx) ?_; (case hx => (rw [PySem.sizeLine_eq]; omega))))
local macro_rules | `(tactic| walk_at "compareOp NotEq str str") => `(tactic| first | refine ne_strs_true (by assumption) ?_ | refine ne_strs_false ?_)
local macro_rules | `(tactic| walk_at "SrcLP") => `(tactic| (k_here; k_dflt (refine LCp.SrcLP.ledger (by rfl) (by k_asm) (by k_asm) (by k_mem) (by (simp only [List.size_toArray, PySem.sizeLine_eq]; omega)) ?_; intro g'; (rename Secs _ _ _ => hsec'); refine rest_snd (by rfl) (by rfl) (by decide) (.inr ⟨_, by k_mem, rfl, _, rfl⟩) _ _ 0 [] (hsec'.mono (fun p hp => (by simp only [List.mem_cons]; first | exact hp | exact .inr hp | exact .inr (.inr hp) | exact .inr (.inr (.inr hp)) | exact .inr (.inr (.inr (.inr hp))) | exact .inr (.inr (.inr (.inr (.inr hp))))))) (fun j v hj => by simpa using hj) ?_); intro D' h' tk' F' N' off'; (try simp only [LCg.Off1] at off')))
local macro_rules | `(tactic| walk_at "call builtin:len") => `(tactic| (k_here; (with_reducible show wpAny _ _ (call (Value.builtin "len") [Value.ref _]) _ _ _); k_dflt (refine' len_ba_K ?N ?m ?_; (case N => k_asm); (case m => k_mem))))
local macro_rules | `(tactic| walk_at "compareOp In int bytes") => `(tactic| (k_here; refine in_bytes_true (by decide +kernel) (by decide +kernel) (by decide +kernel) ?_))
local macro_rules | `(tactic| walk_at "truthy bytes") => `(tactic| (k_here; refine truthy_b0 ?_))
local macro_rules | `(tactic| walk_at "UnrEnd") => `(tactic| (k_here; k_dflt (refine UnrEnd.intro (by assumption) (by assumption) _ (fun p hp => hp) (my_off (by assumption)) ?_)))
local macro_rules | `(tactic| walk_at "exec While UnaryOp cons nil") => `(tactic| (k_here; k_dflt (refine whl_start 4 ?_)))
local macro_rules | `(tactic| walk_at "subscriptTail Name Name ref int") => `(tactic| (k_here; (with_reducible show wpAny _ _ (subscriptTail _ _ (Value.ref _) (Value.int _ _)) _ _ _); k_dflt (refine' item_any ?N ?m ?x ?a ?z ?s ?_; (case N => k_asm); (case m => k_mem); (case x => assumption); (case a => first | assumption | omega); (case z => (first | assumption | omega | (simp only [List.length_cons, List.length_nil, List.length_append, List.length_take, List.length_drop]; omega))); (case s => with_unfolding_all rfl))))
local macro_rules | `(tactic| walk_at "subscriptTail Name BinOp ref int") => `(tactic| (k_here; (with_reducible show wpAny _ _ (subscriptTail _ _ (Value.ref _) (Value.int _ _)) _ _ _); k_dflt (refine' item_any ?N ?m ?x ?a ?z ?s ?_; (case N => k_asm); (case m => k_mem); (case x => assumption); (case a => first | assumption | omega); (case z => (first | assumption | omega | (simp only [List.length_cons, List.length_nil, List.length_append, List.length_take, List.length_drop]; omega))); (case s => with_unfolding_all rfl))))
local macro_rules | `(tactic| k_all) => `(tactic| assumption)
local macro_rules | `(tactic| k_ne) => `(tactic| (refine neN ?_; (try dsimp only); first | (refine Off.l (by assumption) ?_; k_memK; done) | (refine Off.r (by assumption) ?_; k_memK; done) | fail))
local macro_rules | `(tactic| walk_at "compareOp Eq str str") => `(tactic| (k_here; first | refine eq_strs_false (by assumption) ?_ | refine eq_strs_true ?_))
local macro_rules | `(tactic| walk_at "binaryOp Add ref ref") => `(tactic| (k_here; (with_reducible show wpAny _ _ (binaryOp _ (Value.ref _) (Value.ref _)) _ _ _); k_dflt (refine' add_any ?F ?N ?a ?b ?z ?_; (case F => k_asm); (case N => k_asm); (case a => k_mem); (case b => k_mem); (case z => (first | assumption | omega | (simp only [List.length_cons, List.length_nil, List.length_append, List.length_take, List.length_drop]; omega)))); intro D' h' F' N' l1; (try k_lt l1); (try k_sweep)))
local macro_rules | `(tactic| walk_at "call ref") => `(tactic| (k_here; (with_reducible show wpAny _ _ (call (Value.ref 1319) [Value.ref _, Value.ref _] []) _ _ _); k_dflt (refine' push1U ?zzB ?zzF ?zzX ?zzT ?zzN ?zzm1 ?zzm2 ?zzU ?zzc ?zzz ?_; (case zzB => assumption); (case zzF => k_asm); (case zzX => assumption); (case zzT => assumption); (case zzN => k_asm); (case zzm1 => k_mem); (case zzm2 => k_mem); (case zzc => first | assumption | rfl); (case zzU => k_updF); (case zzz => (first | assumption | omega | (simp only [List.length_cons, List.length_nil, List.length_append, List.length_take, List.length_drop]; omega)))); intro h' tk' F' N'; (try dsimp only at N')))
local macro_rules | `(tactic| walk_at "call ref") => `(tactic| (k_here; (with_reducible show wpAny _ _ (call (Value.ref 1649) _ []) _ _ _); k_dflt (refine' endedOkU ?zzB ?zzF ?zzX ?zzT ?zzN ?zzm1 ?zzm4 ?zzm5 ?zzU ?zzU2 ?zzc1 ?zzc2 ?zzc3 ?zzn ?zzct ?zzs ?zzz ?zzz2 ?_; (case zzB => assumption); (case zzF => k_asm); (case zzX => assumption); (case zzT => assumption); (case zzN => k_asm); (case zzm1 => k_mem); (case zzU => k_updF); (case zzc1 => first | assumption | rfl); (case zzc2 => assumption); (case zzc3 => assumption); (case zzU2 => (intro o9; k_updF)); (case zzm4 => k_mem); (case zzm5 => k_mem); (case zzn => k_ne); (case zzct => assumption); (case zzs => (refine (by assumption : Secs _ _ _).mono ?_; intro p hp; simp only [List.mem_cons, hp, or_true])); (case zzz => (first | assumption | omega | (simp only [List.length_cons, List.length_nil, List.length_append, List.length_take, List.length_drop]; omega))); (case zzz2 => (first | assumption | omega | (simp only [List.length_cons, List.length_nil, List.length_append, List.length_take, List.length_drop]; omega)))); intro h' tk' T9 O9 F' N' l1 l2 l3; (try k_lt l3); (replace l2 := ltN l2); (try dsimp only at N')))
local macro_rules | `(tactic| walk_at "compareOp NotEq ref ref") => `(tactic| (k_here; (with_reducible show wpAny _ _ (compareOp CmpOp.NotEq (Value.ref _) (Value.ref _)) _ _ _); k_dflt (refine' ne_pairL ?zN ?za ?zb ?zc ?zd ?zf ?ze ?zu ?_; (case zN => k_asm); (case za => k_mem); (case zb => k_mem); (case zc => k_mem); (case zd => k_mem); (case zf => exact rfl); (case ze => k_ne); (case zu => exact Nat.le_of_ble_eq_true rfl))))
local macro_rules | `(tactic| walk_at "last subscriptTail") => `(tactic| (k_here; (with_reducible show wpAny _ _ (subscriptTail _ (PySem.Expr.Slice _ _ none _) (Value.ref _) (Value.ref _)) _ _ _); k_dflt (refine' slice_any ?F ?N ?l ?p ?q ?e ?_ ?s ?t ?z; (case F => k_asm); (case N => k_asm); (case l => k_mem); (case p => kmk_part); (case q => kmk_part); (case e => first | exact (pick_from (by omega)).trans (congrArg List.toArray (by assumption)) | exact (pick_upto (by assumption)).trans (congrArg List.toArray (by assumption))); (case s => with_unfolding_all rfl); (case t => kmk_pure); (case z => (first | assumption | omega | (simp only [List.length_cons, List.length_nil, List.length_append, List.length_take, List.length_drop]; omega)))); intro D' h' F' N' l1; (try k_lt l1); (try k_sweep)))
local macro_rules | `(tactic| walk_at "subscriptTail Name Slice ref ref") => `(tactic| (k_here; (with_reducible show wpAny _ _ (subscriptTail _ (PySem.Expr.Slice _ _ none _) (Value.ref _) (Value.ref _)) _ _ _); k_dflt (refine' slice_any ?F ?N ?l ?p ?q ?e ?_ ?s ?t ?z; (case F => k_asm); (case N => k_asm); (case l => k_mem); (case p => kmk_part); (case q => kmk_part); (case e => first | exact (pick_from (by omega)).trans (congrArg List.toArray (by assumption)) | exact (pick_upto (by assumption)).trans (congrArg List.toArray (by assumption))); (case s => with_unfolding_all rfl); (case t => kmk_pure); (case z => (first | assumption | omega | (simp only [List.length_cons, List.length_nil, List.length_append, List.length_take, List.length_drop]; omega)))); intro D' h' F' N' l1; (try k_lt l1); (try k_sweep)))
local macro_rules | `(tactic| walk_at "eval ListComp") => `(tactic| (k_here; k_dflt (refine LCg.ListComp_U (F₀ := by k_asm) (by with_unfolding_all rfl) (by decide) (by rfl) (by decide) (by rfl) ?_)))
local macro_rules | `(tactic| walk_at "CompSrc") => `(tactic| (k_here; k_dflt (refine LCg.CompSrc.ledger (by rfl) (by k_asm) (by k_asm) (by k_mem) (by (simp only [List.size_toArray, PySem.sizeLine_eq]; omega)) ?_; intro g'; (rename Secs _ _ _ => hsec'); refine rest_item1 (by rfl) (by rfl) (by decide) (.inr ⟨_, by k_mem, rfl, _, rfl⟩) _ _ 0 [] (hsec'.mono (fun p hp => (by simp only [List.mem_cons, hp, or_true]))) (fun j v hj => by simpa using hj) ?_); intro D' h' tk' F' N' off'; (try simp only [LCg.Off1] at off')))
local macro_rules | `(tactic| k_ne) => `(tactic| (refine neN ?_; (try dsimp only); first | (refine' OffN.r ?zzh ?zzm; (case zzh => assumption); (case zzm => k_mem); done) | (refine' OffN.l ?zzh ?zzm; (case zzh => assumption); (case zzm => k_mem); done) | fail))
section
variable {w : World} {E : Value → Shared → Prop} {Q : Flow → Shared → Prop} {s : Shared} {h₀ : Heap} {L fa : Addr} {cd : Value} {u : Str → Option Value}
  {p : Program} {loose : List Str} {mean : ExcName → Option Value} {mg mb : Str → Option Value} {tl : List (Addr × Obj)} {RW KD WT P D CX CU RS T1 T2 : Addr} {ls : List Lev} {cur wvs : List Value} {nR nK nW nX nC nS : Nat} {d : PD} {oCE : Obj} {ta td0 tp tb td tr a1 b1 b2 : Tok} {r dd bg : Int} {kd : Value} {bx nx : Option Value}
theorem deedEndC5 {j : Nat} {k : Str} {tk1 ltk ltk2 tm tq : Tok} {MA CA LA : Addr} {pos : Int} {km nL : Nat} {items cs ss rowo : List Value} {ct : Value} (B : Below callerA h₀ [] h₀) (X : (K w.params).In h₀) (T : Top p loose mean mg mb h₀) (F : Fr h₀ L s.heap (fun y => if y = Str.ofString "first" then some (Value.ref T1) else if y = Str.ofString "second" then some (Value.ref T2) else if y = Str.ofString "kind" then some kd else if y = Str.ofString "begin" then some (Value.int ((j : Int) - 1) tb) else if y = Str.ofString "deed" then some (Value.int 5 td) else if y = Str.ofString "rest" then some (Value.int r tr) else if y = Str.ofString "rest" then bx else if y = Str.ofString "number" then nx else if y = Str.ofString "row" then some (Value.ref RW) else if y = Str.ofString "waiting" then some (Value.ref WT) else if y = Str.ofString "kinds" then some (Value.ref KD) else u y))
    (N : News h₀ L s.heap ((LA, listOf items.toArray nL) :: (CA, ({ cls := .type "tuple", data := .seq #[Value.int pos tq, ct, Value.ref LA] 0 } : Obj)) :: (MA, ({ cls := .type "tuple", data := .seq #[Value.none, .int pos tm, .str k ltk] km } : Obj)) :: (T2, ({ cls := .type "tuple", data := .seq #[.int (r.fmod 50 + 1) b1, .int (r + 1) b2] 0 } : Obj)) :: (T1, ({ cls := .type "tuple", data := .seq #[.int (r.fmod 50) a1, .int r tr] 0 } : Obj)) :: (RW, listOf (rowOf ls cur).toArray nR) :: (KD, listOf #[.str (Str.ofString "a") ta, .str (Str.ofString "d") td0, .str (Str.ofString "p") tp] nK) :: (WT, listOf wvs.toArray nW) :: (P, instObj 1367 D) :: (D, dictOf (d.es w) 13) :: (CX, listOf (cs ++ [Value.ref CA]).toArray nX) :: (CU, listOf cur.toArray nC) :: (RS, listOf wvs.toArray nS) :: (L + 1, oCE) :: tl)) (l1 : (@LT.lt Nat _ (RW) T1 ∧ @LT.lt Nat _ (KD) T1 ∧ @LT.lt Nat _ (WT) T1 ∧ @LT.lt Nat _ (P) T1 ∧ @LT.lt Nat _ (D) T1 ∧ @LT.lt Nat _ (CX) T1 ∧ @LT.lt Nat _ (CU) T1 ∧ @LT.lt Nat _ (RS) T1 ∧ @LT.lt Nat _ (L + 1) T1 ∧ AllLt T1 tl)) (l2 : @LT.lt Nat _ T1 T2 ∧ @LT.lt Nat _ (RW) T2 ∧ @LT.lt Nat _ (KD) T2 ∧ @LT.lt Nat _ (WT) T2 ∧ @LT.lt Nat _ (P) T2 ∧ @LT.lt Nat _ (D) T2 ∧ @LT.lt Nat _ (CX) T2 ∧ @LT.lt Nat _ (CU) T2 ∧ @LT.lt Nat _ (RS) T2 ∧ @LT.lt Nat _ (L + 1) T2 ∧ AllLt T2 tl)
    (hce : oCE.data = .cell (some (.ref P))) (hlen : (rowOf ls cur).length ≤ 100) (hwl : wvs.length ≤ 100) (hcl : cur.length ≤ 100) (hr : 0 ≤ r) (hr2 : r < 10000) (hct : d.curtype = .str k ltk2) (hcx : d.context = .ref CX) (hcu : d.curstack = .ref CU) (hctv : ct = .none ∨ ∃ k t, ct = .str k t) (hbg : 0 ≤ (j : Int) - 1) (hxM : (rowOf ls cur)[((j : Int) - 1).toNat]? = some (Value.ref MA)) (hd1 : (rowOf ls cur).drop ((j : Int) - 1 + 1).toNat = cur) (hd2 : (rowOf ls cur).take ((j : Int) - 1).toNat = rowo) (hrl : rowo.length ≤ 100) (hil : items.length ≤ 100) (hsl : cs.length ≤ 100) (hsec : Secs tl cur ss) (nLT1 : @LT.lt Nat _ LA T1) (nLT2 : @LT.lt Nat _ LA T2) (nCT1 : @LT.lt Nat _ CA T1) (nCT2 : @LT.lt Nat _ CA T2) (nMT1 : @LT.lt Nat _ MA T1) (nMT2 : @LT.lt Nat _ MA T2) (oLA : Off LA [RW, KD, WT, P, D, CX, CU, RS, L + 1, MA, CA]) (tLA : ∀ p ∈ tl, p.1 ≠ LA) (oMA : Off MA [D, CX]) (oCA : Off CA [D, CX])
    (oD : Off D [RW, KD, WT, P, CX, CU, RS, L + 1]) (tD : ∀ p ∈ tl, p.1 ≠ D) (oCX : Off CX [RW, KD, WT, P, D, CU, RS, L + 1]) (tCX : ∀ p ∈ tl, p.1 ≠ CX)
    (h : ∀ h' tk m' RW' DUE DL, Fr h₀ L h' m' → m' (Str.ofString "row") = some (.ref RW') → m' (Str.ofString "waiting") = some (.ref WT) → m' (Str.ofString "kinds") = some (.ref KD) → News h₀ L h' ((RW', listOf (rowo ++ [Value.ref DUE]).toArray 0) :: (DUE, ({ cls := .type "tuple", data := .seq #[.int pos tm, Value.ref DL] 0 } : Obj)) :: (LA, listOf (items ++ [Value.ref DUE]).toArray (nL + 1)) :: (KD, listOf #[.str (Str.ofString "a") ta, .str (Str.ofString "d") td0, .str (Str.ofString "p") tp] nK) :: (WT, listOf wvs.toArray nW) :: (P, instObj 1367 D) :: (D, dictOf (PD.es w { d with curtype := ct, curstack := .ref LA }) 13) :: (CX, listOf cs.toArray (nX + 1)) :: (RS, listOf wvs.toArray nS) :: (L + 1, oCE) :: tl) → (@Ne Nat KD RW' ∧ @Ne Nat WT RW' ∧ @Ne Nat CX RW' ∧ @Ne Nat RS RW' ∧ @Ne Nat LA RW') → (∀ p ∈ tl, p.1 ≠ RW') → (∀ p ∈ tl, p.1 ≠ DUE) → Q .next { s with heap := h', toks := tk }) :
    wpAny (model PySem.Challenge.rw_ae5031_04.row.prog w) (callerA.deeper (envOfC (Str.ofString "law") lawScope L fa cd)) (exec chain (envOfC (Str.ofString "law") lawScope L fa cd)) (fun f s' => match f with | .next => wpAny (model PySem.Challenge.rw_ae5031_04.row.prog w) (callerA.deeper (envOfC (Str.ofString "law") lawScope L fa cd)) (execs [] (envOfC (Str.ofString "law") lawScope L fa cd)) Q E s' | f => Q f s') E s := by
  revert X
  k_fill
  intro X
  unfold chain
  k_steps
  refine' h _ _ _ _ _ _ ?zF ?zr ?zw ?zk ?zN ?y1 ?y2 ?y3
  (case zF => assumption)
  (case zr => first | rfl | decide)
  (case zw => first | rfl | decide)
  (case zk => first | rfl | decide)
  (case zN => (refine news_sub (by assumption) ?_; (repeat' (first | exact fun p hp => hp | (refine sub_cons (by k_memK) ?_) | (refine sub_tail ?_)))))
  (case y1 => (refine ⟨?_, ?_, ?_, ?_, ?_⟩ <;> k_ne))
  (case y2 => k_all)
  (case y3 => k_all)
end
end Mine
end
section
theorem Mine.freshT2 : True := by
  run_tac (do PyProof.Rows.walkLines.set (0, {}); PyProof.Rows.walkHit.set {}; PyProof.Rows.walkTop.set false; PyProof.Rows.walkStart.set 0; PyProof.Rows.walkLate.set false)
  trivial
open PySem PySem.W PySem.Calls PyProof.Rows
set_option Elab.async false
set_option maxRecDepth 100000
set_option maxHeartbeats 400000
set_option linter.unusedVariables false
set_option linter.unusedSimpArgs false
namespace Mine
open PySem.Spec
structure Sd where
  (RW KD WT P D CX CU RS : Addr)
  (ls : List Lev) (cur wvs : List Value) (nR nK nW nX nC nS : Nat) (d : PD) (ta td tp : Tok) (tl : List (Addr × Obj))
abbrev kdO (ta td tp : Tok) (nK : Nat) : Obj := listOf #[.str (Str.ofString "a") ta, .str (Str.ofString "d") td, .str (Str.ofString "p") tp] nK
def Sd.led (w : World) (L : Addr) (oCE : Obj) (x : Sd) : List (Addr × Obj) :=
  (x.RW, listOf (rowOf x.ls x.cur).toArray x.nR) :: (x.KD, kdO x.ta x.td x.tp x.nK) :: (x.WT, listOf x.wvs.toArray x.nW) :: (x.P, instObj 1367 x.D) :: (x.D, dictOf (x.d.es w) 13) ::
    (x.CX, listOf (ctxOf x.ls).toArray x.nX) :: (x.CU, listOf x.cur.toArray x.nC) :: (x.RS, listOf x.wvs.toArray x.nS) :: (L + 1, oCE) :: x.tl
structure Six (RW KD WT CX CU RS : Nat) : Prop where
  a1 : RW ≠ KD
  a2 : RW ≠ WT
  a3 : RW ≠ CX
  a4 : RW ≠ CU
  a5 : RW ≠ RS
  b2 : KD ≠ WT
  b3 : KD ≠ CX
  b4 : KD ≠ CU
  b5 : KD ≠ RS
  c3 : WT ≠ CX
  c4 : WT ≠ CU
  c5 : WT ≠ RS
  d4 : CX ≠ CU
  d5 : CX ≠ RS
  e5 : CU ≠ RS
structure Ap (a : Nat) (RW WT D CX CU RS : Nat) : Prop where
  a1 : a ≠ RW
  a2 : a ≠ WT
  a3 : a ≠ D
  a4 : a ≠ CX
  a5 : a ≠ CU
  a6 : a ≠ RS
structure Young (d : PD) (fe : PD) : Prop where
  a1 : d.fp = fe.fp
  a2 : d.eof = fe.eof
  a3 : d.bufpos = fe.bufpos
  a4 : d.buf = fe.buf
  a5 : d.charpos = fe.charpos
  a6 : d.parse1 = fe.parse1
  a7 : d.curtoken = fe.curtoken
  a8 : d.curtokenpos = fe.curtokenpos
  a9 : d.tokens = fe.tokens
  b1 : d.t1 = fe.t1
  b2 : d.t2 = fe.t2
  b3 : d.t3 = fe.t3
  b4 : d.t4 = fe.t4
  b5 : d.t5 = fe.t5
  b6 : d.t6 = fe.t6
  b7 : d.t7 = fe.t7
  b8 : d.t8 = fe.t8
  b9 : d.t9 = fe.t9
structure Snd (L : Addr) (oCE : Obj) (fx fe : List (Addr × Obj)) (d₀ : PD) (x : Sd) (ow : List (Addr × Obj)) (i : Nat) : Prop where
  hce : oCE.data = .cell (some (.ref x.P))
  hoff : OwnOff ow (x.RW :: x.KD :: x.WT :: x.P :: x.D :: x.CX :: x.CU :: x.RS :: (L + 1) :: x.tl.map (·.1))
  hcu : x.d.curstack = .ref x.CU
  hcx : x.d.context = .ref x.CX
  hrs : x.d.results = .ref x.RS
  hct : CtOf x.ls x.d.curtype
  hlv : LevsOk x.tl x.ls
  hll : ∀ q ∈ levL x.ls, q ∈ x.tl
  htc : ∀ v ∈ x.cur, Thing x.tl v
  htw : ∀ v ∈ x.wvs, Thing x.tl v
  n6 : Six x.RW x.KD x.WT x.CX x.CU x.RS
  htlf : ∀ q ∈ x.tl, Ap q.1 x.RW x.WT x.D x.CX x.CU x.RS
  hlan : (x.ls.map (·.LA)).Nodup
  hfxm : ∀ q ∈ fx, q ∈ x.tl
  hfxl : ∀ l ∈ x.ls, ∀ q ∈ fx, @Ne Nat l.LA q.1
  hef : x.d.eof = .bool true ∨ (Young x.d d₀ ∧ (∀ q ∈ fe, q ∈ x.tl) ∧ ∀ l ∈ x.ls, ∀ q ∈ fe, @Ne Nat l.LA q.1)
  hle1 : (rowOf x.ls x.cur).length ≤ 2 * i
  hle2 : x.wvs.length ≤ 2 * i
structure Good (w : World) (L : Addr) (oCE : Obj) (fx fe : List (Addr × Obj)) (d₀ : PD) (x : Sd) (h₀ h : Heap) (m : Str → Option Value) (ow : List (Addr × Obj)) (i : Nat) : Prop where
  F : Fr h₀ L h m
  N : News h₀ L h (x.led w L oCE ++ ow)
  mr : m (Str.ofString "row") = some (.ref x.RW)
  mw : m (Str.ofString "waiting") = some (.ref x.WT)
  mkd : m (Str.ofString "kinds") = some (.ref x.KD)
  S : Snd L oCE fx fe d₀ x ow i
theorem off_cons {ow : List (Addr × Obj)} {b : Addr} {bs : List Addr} (h : ∀ q ∈ ow, q.1 ≠ b) (t : OwnOff ow bs) : OwnOff ow (b :: bs) := fun q hq c hc => by
  rcases List.mem_cons.mp hc with rfl | hc
  · exact h q hq
  · exact t q hq c hc
theorem off_of {ow : List (Addr × Obj)} {b : Addr} {bs : List Addr} (h : OwnOff ow bs) (hb : b ∈ bs) : ∀ q ∈ ow, q.1 ≠ b := fun q hq => h q hq b hb
theorem off_mono {ow : List (Addr × Obj)} {bs cs : List Addr} (h : OwnOff ow bs) (hs : ∀ b ∈ cs, b ∈ bs) : OwnOff ow cs := fun q hq b hb => h q hq b (hs b hb)
theorem allLt_sub {d : Addr} {l : List (Addr × Obj)} (h : ∀ q ∈ l, @LT.lt Nat _ q.1 d) : AllLt d l := by
  induction l with
  | nil => trivial
  | cons a r ih => exact ⟨h a (.head _), ih fun q hq => h q (.tail _ hq)⟩
theorem row_ge (ls : List Lev) (cur : List Value) : cur.length ≤ (rowOf ls cur).length := by rw [row_len]; omega
theorem ctx_len : ∀ ls : List Lev, (ctxOf ls).length = ls.length
  | [] => rfl
  | l :: ls => by simp [ctxOf, ctx_len ls]
theorem ls_le : ∀ (ls : List Lev) (cur : List Value), ls.length ≤ (rowOf ls cur).length
  | [], cur => Nat.zero_le _
  | l :: ls, cur => by have := ls_le ls l.items; simp only [rowOf, List.length_append, List.length_cons]; omega
theorem tup_list {its : List Value} {k : Nat} {vs : Array Value} {n : Nat} : ({ cls := .type "tuple", data := .seq its.toArray k } : Obj) ≠ listOf vs n := fun e => absurd (Value.type.inj (congrArg Obj.cls e)) (by decide)
theorem inst_list {c : Addr} {d : Addr} {vs : Array Value} {n : Nat} : instObj c d ≠ listOf vs n := fun e => by have := congrArg Obj.cls e; cases this
theorem dict_list {es : List DictEntry} {k : Nat} {vs : Array Value} {n : Nat} : dictOf es k ≠ listOf vs n := fun e => absurd (Value.type.inj (congrArg Obj.cls e)) (by decide)
theorem inst_dict {c : Addr} {d : Addr} {es : List DictEntry} {k : Nat} : instObj c d ≠ dictOf es k := fun e => by have := congrArg Obj.cls e; cases this
theorem cell_list {o : Obj} {v : Option Value} {vs : Array Value} {n : Nat} (h : o.data = .cell v) : o ≠ listOf vs n := fun e => by rw [e] at h; cases h
theorem cell_dict {o : Obj} {v : Option Value} {es : List DictEntry} {k : Nat} (h : o.data = .cell v) : o ≠ dictOf es k := fun e => by rw [e] at h; cases h
theorem tup_dict {its : List Value} {k : Nat} {es : List DictEntry} {n : Nat} : ({ cls := .type "tuple", data := .seq its.toArray k } : Obj) ≠ dictOf es n := fun e => absurd (Value.type.inj (congrArg Obj.cls e)) (by decide)
theorem off_nil (a : Addr) : Off a [] := fun _ h => nomatch h
theorem off_con {a b : Addr} {l : List Addr} (h : @Ne Nat a b) (t : Off a l) : Off a (b :: l) := fun c hc => by
  rcases List.mem_cons.mp hc with rfl | hc
  · exact h
  · exact t c hc
theorem kd_of {ta td tp : Tok} {r : Int} (h0 : 0 ≤ r) (h3 : r < 3) : ∃ k t, [Value.str (Str.ofString "a") ta, .str (Str.ofString "d") td, .str (Str.ofString "p") tp][r.toNat]? = some (.str k t) ∧ Kd k := by
  have h : r = 0 ∨ r = 1 ∨ r = 2 := by omega
  rcases h with rfl | rfl | rfl
  · exact ⟨_, _, rfl, .inl rfl⟩
  · exact ⟨_, _, rfl, .inr (.inl rfl)⟩
  · exact ⟨_, _, rfl, .inr (.inr rfl)⟩
theorem levs_filter {tl tl' : List (Addr × Obj)} {ob : Obj} {ls : List Lev} (hkeep : ∀ q ∈ tl, q.2 ≠ ob → q ∈ tl') (hth : ∀ v, Thing tl v → Thing tl' v) (hob : ∀ (its : List Value) (k : Nat), ({ cls := .type "tuple", data := .seq its.toArray k } : Obj) ≠ ob) (h : LevsOk tl ls) : LevsOk tl' ls := by
  induction h with
  | nil => exact .nil
  | cons hM hC hct hT hk _ ih => exact .cons (hkeep _ hM (hob [_, _, _] _)) (hkeep _ hC (hob [_, _, _] _)) hct (fun v hv => hth v (hT v hv)) hk ih
theorem inst_tup {c : Addr} {d : Addr} {its : List Value} {k : Nat} : instObj c d ≠ ({ cls := .type "tuple", data := .seq its.toArray k } : Obj) := fun e => by have := congrArg Obj.cls e; cases this
theorem cell_tup {o : Obj} {v : Option Value} {its : List Value} {k : Nat} (h : o.data = .cell v) : o ≠ ({ cls := .type "tuple", data := .seq its.toArray k } : Obj) := fun e => by rw [e] at h; cases h
theorem CtOf.nil_eq {v : Value} (h : CtOf [] v) : v = .none := by cases h; rfl
theorem CtOf.cons_eq {l : Lev} {r : List Lev} {v : Value} (h : CtOf (l :: r) v) : ∃ t, v = .str l.kind t := by cases h; exact ⟨_, rfl⟩
theorem filter_keep {h₀ h : Heap} {L : Addr} {news tl : List (Addr × Obj)} (N : News h₀ L h news) {a : Addr} {o : Obj} (ha : (a, o) ∈ news) (ht : ∀ q ∈ tl, q ∈ news) {q : Addr × Obj} (hq : q ∈ tl) : q = (a, o) ∨ q ∈ tl.filter (fun q => decide (q.1 ≠ a)) := by
  by_cases e : q.1 = a
  · exact .inl (news_fun N (ht q hq) ha e)
  · exact .inr (List.mem_filter.mpr ⟨hq, decide_eq_true e⟩)
theorem Kd.repr {k : Str} (h : Kd k) : (reprText k).length ≤ 100 := by
  rcases h with rfl | rfl | rfl <;> decide +kernel
end Mine
end
section
theorem Mine.freshT3 : True := by
  run_tac (do PyProof.Rows.walkLines.set (0, {}); PyProof.Rows.walkHit.set {}; PyProof.Rows.walkTop.set false; PyProof.Rows.walkStart.set 0; PyProof.Rows.walkLate.set false)
  trivial
open PySem PySem.W PySem.Calls PyProof.Rows
set_option Elab.async false
set_option maxRecDepth 100000
set_option maxHeartbeats 400000
set_option linter.unusedVariables false
set_option linter.unusedSimpArgs false
namespace Mine
open PySem.Spec
section
variable {w : World} {E : Value → Shared → Prop} {Q : Flow → Shared → Prop} {s : Shared} {h₀ : Heap} {L fa : Addr} {cd : Value} {u : Str → Option Value}
  {p : Program} {loose : List Str} {mean : ExcName → Option Value} {mg mb : Str → Option Value} {tl : List (Addr × Obj)} {RW KD WT P D CX CU RS T1 T2 : Addr} {ls : List Lev} {cur wvs : List Value} {nR nK nW nX nC nS : Nat} {d : PD} {oCE : Obj} {ta td0 tp tb td tr a1 b1 b2 : Tok} {r dd bg : Int} {kd : Value} {bx nx : Option Value}
theorem stepPush1 {fx fe ow : List (Addr × Obj)} {d₀ : PD} {i : Nat} (B : Below callerA h₀ [] h₀) (X : (K w.params).In h₀) (T : Top p loose mean mg mb h₀) (S : Snd L oCE fx fe d₀ ⟨RW, KD, WT, P, D, CX, CU, RS, ls, cur, wvs, nR, nK, nW, nX, nC, nS, d, ta, td0, tp, tl⟩ ow i) (hi : i < 24) (F : Fr h₀ L s.heap (fun y => if y = Str.ofString "first" then some (Value.ref T1) else if y = Str.ofString "second" then some (Value.ref T2) else if y = Str.ofString "kind" then some kd else if y = Str.ofString "begin" then some (Value.int bg tb) else if y = Str.ofString "deed" then some (Value.int dd td) else if y = Str.ofString "rest" then some (Value.int r tr) else if y = Str.ofString "rest" then bx else if y = Str.ofString "number" then nx else if y = Str.ofString "row" then some (Value.ref RW) else if y = Str.ofString "waiting" then some (Value.ref WT) else if y = Str.ofString "kinds" then some (Value.ref KD) else u y))
    (N : News h₀ L s.heap ((T2, ({ cls := .type "tuple", data := .seq #[.int (r.fmod 50 + 1) b1, .int (r + 1) b2] 0 } : Obj)) :: (T1, ({ cls := .type "tuple", data := .seq #[.int (r.fmod 50) a1, .int r tr] 0 } : Obj)) :: (RW, listOf (rowOf ls cur).toArray nR) :: (KD, listOf #[.str (Str.ofString "a") ta, .str (Str.ofString "d") td0, .str (Str.ofString "p") tp] nK) :: (WT, listOf wvs.toArray nW) :: (P, instObj 1367 D) :: (D, dictOf (d.es w) 13) :: (CX, listOf (ctxOf ls).toArray nX) :: (CU, listOf cur.toArray nC) :: (RS, listOf wvs.toArray nS) :: (L + 1, oCE) :: (tl ++ ow))) (l1 : (@LT.lt Nat _ (RW) T1 ∧ @LT.lt Nat _ (KD) T1 ∧ @LT.lt Nat _ (WT) T1 ∧ @LT.lt Nat _ (P) T1 ∧ @LT.lt Nat _ (D) T1 ∧ @LT.lt Nat _ (CX) T1 ∧ @LT.lt Nat _ (CU) T1 ∧ @LT.lt Nat _ (RS) T1 ∧ @LT.lt Nat _ (L + 1) T1 ∧ AllLt T1 (tl ++ ow))) (l2 : @LT.lt Nat _ T1 T2 ∧ @LT.lt Nat _ (RW) T2 ∧ @LT.lt Nat _ (KD) T2 ∧ @LT.lt Nat _ (WT) T2 ∧ @LT.lt Nat _ (P) T2 ∧ @LT.lt Nat _ (D) T2 ∧ @LT.lt Nat _ (CX) T2 ∧ @LT.lt Nat _ (CU) T2 ∧ @LT.lt Nat _ (RS) T2 ∧ @LT.lt Nat _ (L + 1) T2 ∧ AllLt T2 (tl ++ ow))
    (hr : 0 ≤ r) (hr2 : r < 10000) (h0 : 0 ≤ dd) (h1 : dd < 2)
    (h : ∀ h' tk m' x', Good w L oCE fx fe d₀ x' h₀ h' m' ow (i + 1) → Q .next { s with heap := h', toks := tk }) :
    wpAny (model PySem.Challenge.rw_ae5031_04.row.prog w) (callerA.deeper (envOfC (Str.ofString "law") lawScope L fa cd)) (exec chain (envOfC (Str.ofString "law") lawScope L fa cd)) (fun f s' => match f with | .next => wpAny (model PySem.Challenge.rw_ae5031_04.row.prog w) (callerA.deeper (envOfC (Str.ofString "law") lawScope L fa cd)) (execs [] (envOfC (Str.ofString "law") lawScope L fa cd)) Q E s' | f => Q f s') E s := by
  obtain ⟨hce, hoff, hcu, hcx, hrs, hct, hlv, hll, htc, htw, n6, htlf, hlan, hfxm, hfxl, hef, hle1, hle2⟩ := S
  dsimp only at hce hoff hcu hcx hrs hct hlv hll htc htw n6 htlf hlan hfxm hfxl hef hle1 hle2
  obtain ⟨n1, n2, n3, n4, n5, n6, n7, n8, n9, n10, n11, n12, n13, n14, n15⟩ := n6
  have hlen : (rowOf ls cur).length ≤ 100 := by omega
  have hwl : ((wvs) : List Value).length ≤ 100 := Nat.le_trans hle2 (by omega)
  have hcl : cur.length ≤ 100 := Nat.le_trans (row_ge ls cur) hlen
  have hxl : (ctxOf ls).length ≤ 100 := by rw [ctx_len]; exact Nat.le_trans (ls_le ls cur) hlen
  obtain ⟨x1, x2, x3, x4, x5, x6, x7, x8, x9, xA⟩ := id l1
  obtain ⟨y0, y1, y2, y3, y4, y5, y6, y7, y8, y9, yA⟩ := id l2
  have oCU : Off CU [RW, KD, WT, P, D, CX, RS, L + 1] := (off_con n4.symm (off_con n8.symm (off_con n11.symm (off_con (ne_obj N (by k_mem) (by k_mem) inst_list.symm) (off_con (ne_obj N (by k_mem) (by k_mem) dict_list.symm) (off_con n13.symm (off_con n15 (off_con (ne_obj N (by k_mem) (by k_mem) (cell_list hce).symm) (off_nil CU)))))))))
  have tCU : ∀ q ∈ tl ++ ow, q.1 ≠ CU := fun q hq => (List.mem_append.mp hq).elim (fun h => (htlf q h).a5) (off_of hoff (by k_mem) q)
  refine deedPush1 (tl := tl ++ ow) B X T F N l1 l2 hce hlen hwl hcl hr hr2 h0 h1 hcu oCU tCU ?_
  intro h' tk m' RW' F2 mr2 mw2 mk2 N2 f0 t0
  rw [row_push] at N2
  obtain ⟨f1, f2, f3, f4, f5, f6⟩ := f0
  refine h _ _ _ ⟨RW', KD, WT, P, D, CX, CU, RS, ls, cur ++ [Value.ref T1], wvs, 0, nK, nW, nX, nC + 1, nS, d, ta, td0, tp, (T2, ({ cls := .type "tuple", data := .seq #[.int (r.fmod 50 + 1) b1, .int (r + 1) b2] 0 } : Obj)) :: (T1, ({ cls := .type "tuple", data := .seq #[.int (r.fmod 50) a1, .int r tr] 0 } : Obj)) :: tl⟩ ⟨F2, ?zN, mr2, mw2, mk2, hce, ?zoff, ?zcu, ?zcx, ?zrs, ?zct, ?zlv, ?zll, ?ztc, ?ztw, ?zsix, ?ztlf, ?zlan, ?zfxm, ?zfxl, ?zef, ?zle1, ?zle2⟩
  (case zN => (refine news_sub N2 ?_; simp only [Sd.led, List.cons_append]; (repeat' (first | exact fun q hq => hq | (refine sub_cons (by k_mem) ?_) | (refine sub_tail ?_)))))
  (case zoff => ((try simp only [List.map_cons]); (repeat' (refine off_cons ?_ ?_)); all_goals (first | exact off_of hoff (by k_mem) | exact (fun q hq => Nat.ne_of_lt (allNew_of xA q (List.mem_append.mpr (.inr hq)))) | exact (fun q hq => Nat.ne_of_lt (allNew_of yA q (List.mem_append.mpr (.inr hq)))) | (intro q hq; first | exact t0 q (List.mem_append.mpr (.inr hq))) | exact off_mono hoff (fun b hb => (by (repeat' (first | exact hb | refine List.Mem.tail _ ?_))))))) 
  (case zcu => first | exact hcu | rfl)
  (case zcx => first | exact hcx | rfl)
  (case zrs => first | exact hrs | rfl)
  (case zct => exact hct)
  (case zlv => exact hlv.mono fun q hq => (.tail _ (.tail _ (hq))))
  (case zll => exact fun q hq => (.tail _ (.tail _ ((hll q hq)))))
  (case ztc => exact fun v hv => (List.mem_append.mp hv).elim (fun hv => (htc v hv).mono fun q hq => .tail _ (.tail _ hq)) (fun hv => by rw [List.mem_singleton.mp hv]; exact ⟨_, _, _, _, _, rfl, .tail _ (.head _)⟩))
  (case ztw => exact fun v hv => (htw v hv).mono fun q hq => (.tail _ (.tail _ (hq))))
  (case zsix => (constructor <;> first | assumption | (apply Ne.symm; assumption)))
  (case ztlf => (intro q hq; (try simp only [List.mem_cons] at hq); rcases hq with rfl | rfl | hq <;> (dsimp only; first | (obtain ⟨z1, z2, z3, z4, z5, z6⟩ := htlf q hq; refine ⟨?_, ?_, ?_, ?_, ?_, ?_⟩ <;> first | assumption | exact t0 q (List.mem_append.mpr (.inl hq))) | (refine ⟨?_, ?_, ?_, ?_, ?_, ?_⟩ <;> first | assumption | exact Nat.ne_of_gt (by assumption) | exact ne_obj N2 (by k_mem) (by k_mem) tup_list | exact ne_obj N2 (by k_mem) (by k_mem) tup_dict))))
  (case zlan => exact hlan)
  (case zfxm => exact fun q hq => (.tail _ (.tail _ ((hfxm q hq)))))
  (case zfxl => exact hfxl)
  (case zef => exact hef.imp id (fun ⟨ha, hb, hc⟩ => ⟨⟨ha.a1, ha.a2, ha.a3, ha.a4, ha.a5, ha.a6, ha.a7, ha.a8, ha.a9, ha.b1, ha.b2, ha.b3, ha.b4, ha.b5, ha.b6, ha.b7, ha.b8, ha.b9⟩, fun q hq => (.tail _ (.tail _ ((hb q hq)))), hc⟩))
  (case zle1 => (have e1 := row_len ls cur; have e2 := row_len ls (cur ++ [Value.ref T1]); simp only [List.length_append, List.length_cons, List.length_nil] at e2; dsimp only; omega))
  (case zle2 => (dsimp only; omega))
theorem stepPush2 {fx fe ow : List (Addr × Obj)} {d₀ : PD} {i : Nat} (B : Below callerA h₀ [] h₀) (X : (K w.params).In h₀) (T : Top p loose mean mg mb h₀) (S : Snd L oCE fx fe d₀ ⟨RW, KD, WT, P, D, CX, CU, RS, ls, cur, wvs, nR, nK, nW, nX, nC, nS, d, ta, td0, tp, tl⟩ ow i) (hi : i < 24) (F : Fr h₀ L s.heap (fun y => if y = Str.ofString "first" then some (Value.ref T1) else if y = Str.ofString "second" then some (Value.ref T2) else if y = Str.ofString "kind" then some kd else if y = Str.ofString "begin" then some (Value.int bg tb) else if y = Str.ofString "deed" then some (Value.int 2 td) else if y = Str.ofString "rest" then some (Value.int r tr) else if y = Str.ofString "rest" then bx else if y = Str.ofString "number" then nx else if y = Str.ofString "row" then some (Value.ref RW) else if y = Str.ofString "waiting" then some (Value.ref WT) else if y = Str.ofString "kinds" then some (Value.ref KD) else u y))
    (N : News h₀ L s.heap ((T2, ({ cls := .type "tuple", data := .seq #[.int (r.fmod 50 + 1) b1, .int (r + 1) b2] 0 } : Obj)) :: (T1, ({ cls := .type "tuple", data := .seq #[.int (r.fmod 50) a1, .int r tr] 0 } : Obj)) :: (RW, listOf (rowOf ls cur).toArray nR) :: (KD, listOf #[.str (Str.ofString "a") ta, .str (Str.ofString "d") td0, .str (Str.ofString "p") tp] nK) :: (WT, listOf wvs.toArray nW) :: (P, instObj 1367 D) :: (D, dictOf (d.es w) 13) :: (CX, listOf (ctxOf ls).toArray nX) :: (CU, listOf cur.toArray nC) :: (RS, listOf wvs.toArray nS) :: (L + 1, oCE) :: (tl ++ ow))) (l1 : (@LT.lt Nat _ (RW) T1 ∧ @LT.lt Nat _ (KD) T1 ∧ @LT.lt Nat _ (WT) T1 ∧ @LT.lt Nat _ (P) T1 ∧ @LT.lt Nat _ (D) T1 ∧ @LT.lt Nat _ (CX) T1 ∧ @LT.lt Nat _ (CU) T1 ∧ @LT.lt Nat _ (RS) T1 ∧ @LT.lt Nat _ (L + 1) T1 ∧ AllLt T1 (tl ++ ow))) (l2 : @LT.lt Nat _ T1 T2 ∧ @LT.lt Nat _ (RW) T2 ∧ @LT.lt Nat _ (KD) T2 ∧ @LT.lt Nat _ (WT) T2 ∧ @LT.lt Nat _ (P) T2 ∧ @LT.lt Nat _ (D) T2 ∧ @LT.lt Nat _ (CX) T2 ∧ @LT.lt Nat _ (CU) T2 ∧ @LT.lt Nat _ (RS) T2 ∧ @LT.lt Nat _ (L + 1) T2 ∧ AllLt T2 (tl ++ ow))
    (hr : 0 ≤ r) (hr2 : r < 10000) 
    (h : ∀ h' tk m' x', Good w L oCE fx fe d₀ x' h₀ h' m' ow (i + 1) → Q .next { s with heap := h', toks := tk }) :
    wpAny (model PySem.Challenge.rw_ae5031_04.row.prog w) (callerA.deeper (envOfC (Str.ofString "law") lawScope L fa cd)) (exec chain (envOfC (Str.ofString "law") lawScope L fa cd)) (fun f s' => match f with | .next => wpAny (model PySem.Challenge.rw_ae5031_04.row.prog w) (callerA.deeper (envOfC (Str.ofString "law") lawScope L fa cd)) (execs [] (envOfC (Str.ofString "law") lawScope L fa cd)) Q E s' | f => Q f s') E s := by
  obtain ⟨hce, hoff, hcu, hcx, hrs, hct, hlv, hll, htc, htw, n6, htlf, hlan, hfxm, hfxl, hef, hle1, hle2⟩ := S
  dsimp only at hce hoff hcu hcx hrs hct hlv hll htc htw n6 htlf hlan hfxm hfxl hef hle1 hle2
  obtain ⟨n1, n2, n3, n4, n5, n6, n7, n8, n9, n10, n11, n12, n13, n14, n15⟩ := n6
  have hlen : (rowOf ls cur).length ≤ 100 := by omega
  have hwl : ((wvs) : List Value).length ≤ 100 := Nat.le_trans hle2 (by omega)
  have hcl : cur.length ≤ 100 := Nat.le_trans (row_ge ls cur) hlen
  have hxl : (ctxOf ls).length ≤ 100 := by rw [ctx_len]; exact Nat.le_trans (ls_le ls cur) hlen
  obtain ⟨x1, x2, x3, x4, x5, x6, x7, x8, x9, xA⟩ := id l1
  obtain ⟨y0, y1, y2, y3, y4, y5, y6, y7, y8, y9, yA⟩ := id l2
  have oCU : Off CU [RW, KD, WT, P, D, CX, RS, L + 1] := (off_con n4.symm (off_con n8.symm (off_con n11.symm (off_con (ne_obj N (by k_mem) (by k_mem) inst_list.symm) (off_con (ne_obj N (by k_mem) (by k_mem) dict_list.symm) (off_con n13.symm (off_con n15 (off_con (ne_obj N (by k_mem) (by k_mem) (cell_list hce).symm) (off_nil CU)))))))))
  have tCU : ∀ q ∈ tl ++ ow, q.1 ≠ CU := fun q hq => (List.mem_append.mp hq).elim (fun h => (htlf q h).a5) (off_of hoff (by k_mem) q)
  refine deedPush2 (tl := tl ++ ow) B X T F N l1 l2 hce hlen hwl hcl hr hr2 hcu oCU tCU ?_
  intro h' tk m' RW' F2 mr2 mw2 mk2 N2 f0 t0
  rw [row_push] at N2
  obtain ⟨f1, f2, f3, f4, f5, f6⟩ := f0
  refine h _ _ _ ⟨RW', KD, WT, P, D, CX, CU, RS, ls, cur ++ [Value.ref T1, Value.ref T2], wvs, 0, nK, nW, nX, nC + 1, nS, d, ta, td0, tp, (T2, ({ cls := .type "tuple", data := .seq #[.int (r.fmod 50 + 1) b1, .int (r + 1) b2] 0 } : Obj)) :: (T1, ({ cls := .type "tuple", data := .seq #[.int (r.fmod 50) a1, .int r tr] 0 } : Obj)) :: tl⟩ ⟨F2, ?zN, mr2, mw2, mk2, hce, ?zoff, ?zcu, ?zcx, ?zrs, ?zct, ?zlv, ?zll, ?ztc, ?ztw, ?zsix, ?ztlf, ?zlan, ?zfxm, ?zfxl, ?zef, ?zle1, ?zle2⟩
  (case zN => (refine news_sub N2 ?_; simp only [Sd.led, List.cons_append]; (repeat' (first | exact fun q hq => hq | (refine sub_cons (by k_mem) ?_) | (refine sub_tail ?_)))))
  (case zoff => ((try simp only [List.map_cons]); (repeat' (refine off_cons ?_ ?_)); all_goals (first | exact off_of hoff (by k_mem) | exact (fun q hq => Nat.ne_of_lt (allNew_of xA q (List.mem_append.mpr (.inr hq)))) | exact (fun q hq => Nat.ne_of_lt (allNew_of yA q (List.mem_append.mpr (.inr hq)))) | (intro q hq; first | exact t0 q (List.mem_append.mpr (.inr hq))) | exact off_mono hoff (fun b hb => (by (repeat' (first | exact hb | refine List.Mem.tail _ ?_))))))) 
  (case zcu => first | exact hcu | rfl)
  (case zcx => first | exact hcx | rfl)
  (case zrs => first | exact hrs | rfl)
  (case zct => exact hct)
  (case zlv => exact hlv.mono fun q hq => (.tail _ (.tail _ (hq))))
  (case zll => exact fun q hq => (.tail _ (.tail _ ((hll q hq)))))
  (case ztc => exact fun v hv => (List.mem_append.mp hv).elim (fun hv => (htc v hv).mono fun q hq => .tail _ (.tail _ hq)) (fun hv => by rcases List.mem_cons.mp hv with rfl | hv; exact ⟨_, _, _, _, _, rfl, .tail _ (.head _)⟩; rw [List.mem_singleton.mp hv]; exact ⟨_, _, _, _, _, rfl, .head _⟩))
  (case ztw => exact fun v hv => (htw v hv).mono fun q hq => (.tail _ (.tail _ (hq))))
  (case zsix => (constructor <;> first | assumption | (apply Ne.symm; assumption)))
  (case ztlf => (intro q hq; (try simp only [List.mem_cons] at hq); rcases hq with rfl | rfl | hq <;> (dsimp only; first | (obtain ⟨z1, z2, z3, z4, z5, z6⟩ := htlf q hq; refine ⟨?_, ?_, ?_, ?_, ?_, ?_⟩ <;> first | assumption | exact t0 q (List.mem_append.mpr (.inl hq))) | (refine ⟨?_, ?_, ?_, ?_, ?_, ?_⟩ <;> first | assumption | exact Nat.ne_of_gt (by assumption) | exact ne_obj N2 (by k_mem) (by k_mem) tup_list | exact ne_obj N2 (by k_mem) (by k_mem) tup_dict))))
  (case zlan => exact hlan)
  (case zfxm => exact fun q hq => (.tail _ (.tail _ ((hfxm q hq)))))
  (case zfxl => exact hfxl)
  (case zef => exact hef.imp id (fun ⟨ha, hb, hc⟩ => ⟨⟨ha.a1, ha.a2, ha.a3, ha.a4, ha.a5, ha.a6, ha.a7, ha.a8, ha.a9, ha.b1, ha.b2, ha.b3, ha.b4, ha.b5, ha.b6, ha.b7, ha.b8, ha.b9⟩, fun q hq => (.tail _ (.tail _ ((hb q hq)))), hc⟩))
  (case zle1 => (have e1 := row_len ls cur; have e2 := row_len ls (cur ++ [Value.ref T1, Value.ref T2]); simp only [List.length_append, List.length_cons, List.length_nil] at e2; dsimp only; omega))
  (case zle2 => (dsimp only; omega))
theorem stepResults {fx fe ow : List (Addr × Obj)} {d₀ : PD} {i : Nat} (B : Below callerA h₀ [] h₀) (X : (K w.params).In h₀) (T : Top p loose mean mg mb h₀) (S : Snd L oCE fx fe d₀ ⟨RW, KD, WT, P, D, CX, CU, RS, ls, cur, wvs, nR, nK, nW, nX, nC, nS, d, ta, td0, tp, tl⟩ ow i) (hi : i < 24) (F : Fr h₀ L s.heap (fun y => if y = Str.ofString "first" then some (Value.ref T1) else if y = Str.ofString "second" then some (Value.ref T2) else if y = Str.ofString "kind" then some kd else if y = Str.ofString "begin" then some (Value.int bg tb) else if y = Str.ofString "deed" then some (Value.int 8 td) else if y = Str.ofString "rest" then some (Value.int r tr) else if y = Str.ofString "rest" then bx else if y = Str.ofString "number" then nx else if y = Str.ofString "row" then some (Value.ref RW) else if y = Str.ofString "waiting" then some (Value.ref WT) else if y = Str.ofString "kinds" then some (Value.ref KD) else u y))
    (N : News h₀ L s.heap ((T2, ({ cls := .type "tuple", data := .seq #[.int (r.fmod 50 + 1) b1, .int (r + 1) b2] 0 } : Obj)) :: (T1, ({ cls := .type "tuple", data := .seq #[.int (r.fmod 50) a1, .int r tr] 0 } : Obj)) :: (RW, listOf (rowOf ls cur).toArray nR) :: (KD, listOf #[.str (Str.ofString "a") ta, .str (Str.ofString "d") td0, .str (Str.ofString "p") tp] nK) :: (WT, listOf wvs.toArray nW) :: (P, instObj 1367 D) :: (D, dictOf (d.es w) 13) :: (CX, listOf (ctxOf ls).toArray nX) :: (CU, listOf cur.toArray nC) :: (RS, listOf wvs.toArray nS) :: (L + 1, oCE) :: (tl ++ ow))) (l1 : (@LT.lt Nat _ (RW) T1 ∧ @LT.lt Nat _ (KD) T1 ∧ @LT.lt Nat _ (WT) T1 ∧ @LT.lt Nat _ (P) T1 ∧ @LT.lt Nat _ (D) T1 ∧ @LT.lt Nat _ (CX) T1 ∧ @LT.lt Nat _ (CU) T1 ∧ @LT.lt Nat _ (RS) T1 ∧ @LT.lt Nat _ (L + 1) T1 ∧ AllLt T1 (tl ++ ow))) (l2 : @LT.lt Nat _ T1 T2 ∧ @LT.lt Nat _ (RW) T2 ∧ @LT.lt Nat _ (KD) T2 ∧ @LT.lt Nat _ (WT) T2 ∧ @LT.lt Nat _ (P) T2 ∧ @LT.lt Nat _ (D) T2 ∧ @LT.lt Nat _ (CX) T2 ∧ @LT.lt Nat _ (CU) T2 ∧ @LT.lt Nat _ (RS) T2 ∧ @LT.lt Nat _ (L + 1) T2 ∧ AllLt T2 (tl ++ ow))
    (hr : 0 ≤ r) (hr2 : r < 10000) 
    (h : ∀ h' tk m' x', Good w L oCE fx fe d₀ x' h₀ h' m' ow (i + 1) → Q .next { s with heap := h', toks := tk }) :
    wpAny (model PySem.Challenge.rw_ae5031_04.row.prog w) (callerA.deeper (envOfC (Str.ofString "law") lawScope L fa cd)) (exec chain (envOfC (Str.ofString "law") lawScope L fa cd)) (fun f s' => match f with | .next => wpAny (model PySem.Challenge.rw_ae5031_04.row.prog w) (callerA.deeper (envOfC (Str.ofString "law") lawScope L fa cd)) (execs [] (envOfC (Str.ofString "law") lawScope L fa cd)) Q E s' | f => Q f s') E s := by
  obtain ⟨hce, hoff, hcu, hcx, hrs, hct, hlv, hll, htc, htw, n6, htlf, hlan, hfxm, hfxl, hef, hle1, hle2⟩ := S
  dsimp only at hce hoff hcu hcx hrs hct hlv hll htc htw n6 htlf hlan hfxm hfxl hef hle1 hle2
  obtain ⟨n1, n2, n3, n4, n5, n6, n7, n8, n9, n10, n11, n12, n13, n14, n15⟩ := n6
  have hlen : (rowOf ls cur).length ≤ 100 := by omega
  have hwl : ((wvs) : List Value).length ≤ 100 := Nat.le_trans hle2 (by omega)
  have hcl : cur.length ≤ 100 := Nat.le_trans (row_ge ls cur) hlen
  have hxl : (ctxOf ls).length ≤ 100 := by rw [ctx_len]; exact Nat.le_trans (ls_le ls cur) hlen
  obtain ⟨x1, x2, x3, x4, x5, x6, x7, x8, x9, xA⟩ := id l1
  obtain ⟨y0, y1, y2, y3, y4, y5, y6, y7, y8, y9, yA⟩ := id l2
  have oRS : Off RS [RW, KD, WT, P, D, CX, CU, L + 1] := (off_con n5.symm (off_con n9.symm (off_con n12.symm (off_con (ne_obj N (by k_mem) (by k_mem) inst_list.symm) (off_con (ne_obj N (by k_mem) (by k_mem) dict_list.symm) (off_con n14.symm (off_con n15.symm (off_con (ne_obj N (by k_mem) (by k_mem) (cell_list hce).symm) (off_nil RS)))))))))
  have tRS : ∀ q ∈ tl ++ ow, q.1 ≠ RS := fun q hq => (List.mem_append.mp hq).elim (fun h => (htlf q h).a6) (off_of hoff (by k_mem) q)
  refine deedResults (tl := tl ++ ow) B X T F N l1 l2 hce hlen hwl hcl hr hr2 hrs oRS tRS ?_
  intro h' tk m' WT' F2 mr2 mw2 mk2 N2 f0 t0
  obtain ⟨f1, f2, f3, f4, f5, f6⟩ := f0
  refine h _ _ _ ⟨RW, KD, WT', P, D, CX, CU, RS, ls, cur, wvs ++ [Value.ref T1, Value.ref T2], nR, nK, 0, nX, nC, nS + 1, d, ta, td0, tp, (T2, ({ cls := .type "tuple", data := .seq #[.int (r.fmod 50 + 1) b1, .int (r + 1) b2] 0 } : Obj)) :: (T1, ({ cls := .type "tuple", data := .seq #[.int (r.fmod 50) a1, .int r tr] 0 } : Obj)) :: tl⟩ ⟨F2, ?zN, mr2, mw2, mk2, hce, ?zoff, ?zcu, ?zcx, ?zrs, ?zct, ?zlv, ?zll, ?ztc, ?ztw, ?zsix, ?ztlf, ?zlan, ?zfxm, ?zfxl, ?zef, ?zle1, ?zle2⟩
  (case zN => (refine news_sub N2 ?_; simp only [Sd.led, List.cons_append]; (repeat' (first | exact fun q hq => hq | (refine sub_cons (by k_mem) ?_) | (refine sub_tail ?_)))))
  (case zoff => ((try simp only [List.map_cons]); (repeat' (refine off_cons ?_ ?_)); all_goals (first | exact off_of hoff (by k_mem) | exact (fun q hq => Nat.ne_of_lt (allNew_of xA q (List.mem_append.mpr (.inr hq)))) | exact (fun q hq => Nat.ne_of_lt (allNew_of yA q (List.mem_append.mpr (.inr hq)))) | (intro q hq; first | exact t0 q (List.mem_append.mpr (.inr hq))) | exact off_mono hoff (fun b hb => (by (repeat' (first | exact hb | refine List.Mem.tail _ ?_))))))) 
  (case zcu => first | exact hcu | rfl)
  (case zcx => first | exact hcx | rfl)
  (case zrs => first | exact hrs | rfl)
  (case zct => exact hct)
  (case zlv => exact hlv.mono fun q hq => (.tail _ (.tail _ (hq))))
  (case zll => exact fun q hq => (.tail _ (.tail _ ((hll q hq)))))
  (case ztc => exact fun v hv => (htc v hv).mono fun q hq => (.tail _ (.tail _ (hq))))
  (case ztw => exact fun v hv => (List.mem_append.mp hv).elim (fun hv => (htw v hv).mono fun q hq => .tail _ (.tail _ hq)) (fun hv => by rcases List.mem_cons.mp hv with rfl | hv; exact ⟨_, _, _, _, _, rfl, .tail _ (.head _)⟩; rw [List.mem_singleton.mp hv]; exact ⟨_, _, _, _, _, rfl, .head _⟩))
  (case zsix => (constructor <;> first | assumption | (apply Ne.symm; assumption)))
  (case ztlf => (intro q hq; (try simp only [List.mem_cons] at hq); rcases hq with rfl | rfl | hq <;> (dsimp only; first | (obtain ⟨z1, z2, z3, z4, z5, z6⟩ := htlf q hq; refine ⟨?_, ?_, ?_, ?_, ?_, ?_⟩ <;> first | assumption | exact t0 q (List.mem_append.mpr (.inl hq))) | (refine ⟨?_, ?_, ?_, ?_, ?_, ?_⟩ <;> first | assumption | exact Nat.ne_of_gt (by assumption) | exact ne_obj N2 (by k_mem) (by k_mem) tup_list | exact ne_obj N2 (by k_mem) (by k_mem) tup_dict))))
  (case zlan => exact hlan)
  (case zfxm => exact fun q hq => (.tail _ (.tail _ ((hfxm q hq)))))
  (case zfxl => exact hfxl)
  (case zef => exact hef.imp id (fun ⟨ha, hb, hc⟩ => ⟨⟨ha.a1, ha.a2, ha.a3, ha.a4, ha.a5, ha.a6, ha.a7, ha.a8, ha.a9, ha.b1, ha.b2, ha.b3, ha.b4, ha.b5, ha.b6, ha.b7, ha.b8, ha.b9⟩, fun q hq => (.tail _ (.tail _ ((hb q hq)))), hc⟩))
  (case zle1 => (dsimp only; omega))
  (case zle2 => (dsimp only; simp only [List.length_append, List.length_cons, List.length_nil]; omega))
theorem stepPopall {fx fe ow : List (Addr × Obj)} {d₀ : PD} {i : Nat} (B : Below callerA h₀ [] h₀) (X : (K w.params).In h₀) (T : Top p loose mean mg mb h₀) (S : Snd L oCE fx fe d₀ ⟨RW, KD, WT, P, D, CX, CU, RS, ls, cur, wvs, nR, nK, nW, nX, nC, nS, d, ta, td0, tp, tl⟩ ow i) (hi : i < 24) (F : Fr h₀ L s.heap (fun y => if y = Str.ofString "first" then some (Value.ref T1) else if y = Str.ofString "second" then some (Value.ref T2) else if y = Str.ofString "kind" then some kd else if y = Str.ofString "begin" then some (Value.int ((begJ ls : Int) - 1) tb) else if y = Str.ofString "deed" then some (Value.int 7 td) else if y = Str.ofString "rest" then some (Value.int r tr) else if y = Str.ofString "rest" then bx else if y = Str.ofString "number" then nx else if y = Str.ofString "row" then some (Value.ref RW) else if y = Str.ofString "waiting" then some (Value.ref WT) else if y = Str.ofString "kinds" then some (Value.ref KD) else u y))
    (N : News h₀ L s.heap ((T2, ({ cls := .type "tuple", data := .seq #[.int (r.fmod 50 + 1) b1, .int (r + 1) b2] 0 } : Obj)) :: (T1, ({ cls := .type "tuple", data := .seq #[.int (r.fmod 50) a1, .int r tr] 0 } : Obj)) :: (RW, listOf (rowOf ls cur).toArray nR) :: (KD, listOf #[.str (Str.ofString "a") ta, .str (Str.ofString "d") td0, .str (Str.ofString "p") tp] nK) :: (WT, listOf wvs.toArray nW) :: (P, instObj 1367 D) :: (D, dictOf (d.es w) 13) :: (CX, listOf (ctxOf ls).toArray nX) :: (CU, listOf cur.toArray nC) :: (RS, listOf wvs.toArray nS) :: (L + 1, oCE) :: (tl ++ ow))) (l1 : (@LT.lt Nat _ (RW) T1 ∧ @LT.lt Nat _ (KD) T1 ∧ @LT.lt Nat _ (WT) T1 ∧ @LT.lt Nat _ (P) T1 ∧ @LT.lt Nat _ (D) T1 ∧ @LT.lt Nat _ (CX) T1 ∧ @LT.lt Nat _ (CU) T1 ∧ @LT.lt Nat _ (RS) T1 ∧ @LT.lt Nat _ (L + 1) T1 ∧ AllLt T1 (tl ++ ow))) (l2 : @LT.lt Nat _ T1 T2 ∧ @LT.lt Nat _ (RW) T2 ∧ @LT.lt Nat _ (KD) T2 ∧ @LT.lt Nat _ (WT) T2 ∧ @LT.lt Nat _ (P) T2 ∧ @LT.lt Nat _ (D) T2 ∧ @LT.lt Nat _ (CX) T2 ∧ @LT.lt Nat _ (CU) T2 ∧ @LT.lt Nat _ (RS) T2 ∧ @LT.lt Nat _ (L + 1) T2 ∧ AllLt T2 (tl ++ ow))
    (hr : 0 ≤ r) (hr2 : r < 10000) 
    (h : ∀ h' tk m' x', Good w L oCE fx fe d₀ x' h₀ h' m' ow (i + 1) → Q .next { s with heap := h', toks := tk }) :
    wpAny (model PySem.Challenge.rw_ae5031_04.row.prog w) (callerA.deeper (envOfC (Str.ofString "law") lawScope L fa cd)) (exec chain (envOfC (Str.ofString "law") lawScope L fa cd)) (fun f s' => match f with | .next => wpAny (model PySem.Challenge.rw_ae5031_04.row.prog w) (callerA.deeper (envOfC (Str.ofString "law") lawScope L fa cd)) (execs [] (envOfC (Str.ofString "law") lawScope L fa cd)) Q E s' | f => Q f s') E s := by
  obtain ⟨hce, hoff, hcu, hcx, hrs, hct, hlv, hll, htc, htw, n6, htlf, hlan, hfxm, hfxl, hef, hle1, hle2⟩ := S
  dsimp only at hce hoff hcu hcx hrs hct hlv hll htc htw n6 htlf hlan hfxm hfxl hef hle1 hle2
  obtain ⟨n1, n2, n3, n4, n5, n6, n7, n8, n9, n10, n11, n12, n13, n14, n15⟩ := n6
  have hlen : (rowOf ls cur).length ≤ 100 := by omega
  have hwl : ((wvs) : List Value).length ≤ 100 := Nat.le_trans hle2 (by omega)
  have hcl : cur.length ≤ 100 := Nat.le_trans (row_ge ls cur) hlen
  have hxl : (ctxOf ls).length ≤ 100 := by rw [ctx_len]; exact Nat.le_trans (ls_le ls cur) hlen
  obtain ⟨x1, x2, x3, x4, x5, x6, x7, x8, x9, xA⟩ := id l1
  obtain ⟨y0, y1, y2, y3, y4, y5, y6, y7, y8, y9, yA⟩ := id l2
  have oD : Off D [RW, KD, WT, P, CX, CU, RS, L + 1] := (off_con (ne_obj N (by k_mem) (by k_mem) dict_list) (off_con (ne_obj N (by k_mem) (by k_mem) dict_list) (off_con (ne_obj N (by k_mem) (by k_mem) dict_list) (off_con (ne_obj N (by k_mem) (by k_mem) inst_dict.symm) (off_con (ne_obj N (by k_mem) (by k_mem) dict_list) (off_con (ne_obj N (by k_mem) (by k_mem) dict_list) (off_con (ne_obj N (by k_mem) (by k_mem) dict_list) (off_con (ne_obj N (by k_mem) (by k_mem) (cell_dict hce).symm) (off_nil D)))))))))
  have tD : ∀ q ∈ tl ++ ow, q.1 ≠ D := fun q hq => (List.mem_append.mp hq).elim (fun h => (htlf q h).a3) (off_of hoff (by k_mem) q)
  have hd1 : (rowOf ls cur).drop ((begJ ls : Int) - 1 + 1).toNat = cur := by rw [show ((begJ ls : Int) - 1 + 1).toNat = begJ ls by omega]; exact row_drop ls cur
  have hd2 : (rowOf ls cur).take ((begJ ls : Int) - 1 + 1).toNat = rowOf ls [] := by rw [show ((begJ ls : Int) - 1 + 1).toNat = begJ ls by omega]; exact row_take ls cur
  refine deedPopall (tl := tl ++ ow) B X T F N l1 l2 hce hlen hwl hcl hr hr2 hcu hd1 hd2 oD tD ?_
  intro h' tk m' RW' A1 F2 mr2 mw2 mk2 N2 f0 t0 g0 t1
  obtain ⟨f1, f2, f3, f4, f5, f6, f7⟩ := f0
  obtain ⟨g1, g2, g3, g4, g5, g6⟩ := g0
  refine h _ _ _ ⟨RW', KD, WT, P, D, CX, A1, RS, ls, [], wvs, 0, nK, nW, nX, 0, nS, { d with curstack := .ref A1 }, ta, td0, tp, tl⟩ ⟨F2, ?zN, mr2, mw2, mk2, hce, ?zoff, ?zcu, ?zcx, ?zrs, ?zct, ?zlv, ?zll, ?ztc, ?ztw, ?zsix, ?ztlf, ?zlan, ?zfxm, ?zfxl, ?zef, ?zle1, ?zle2⟩
  (case zN => (refine news_sub N2 ?_; simp only [Sd.led, List.cons_append]; (repeat' (first | exact fun q hq => hq | (refine sub_cons (by k_mem) ?_) | (refine sub_tail ?_)))))
  (case zoff => ((try simp only [List.map_cons]); (repeat' (refine off_cons ?_ ?_)); all_goals (first | exact off_of hoff (by k_mem) | exact (fun q hq => Nat.ne_of_lt (allNew_of xA q (List.mem_append.mpr (.inr hq)))) | exact (fun q hq => Nat.ne_of_lt (allNew_of yA q (List.mem_append.mpr (.inr hq)))) | (intro q hq; first | exact t0 q (List.mem_append.mpr (.inr hq)) | exact t1 q (List.mem_append.mpr (.inr hq))) | exact off_mono hoff (fun b hb => (by (repeat' (first | exact hb | refine List.Mem.tail _ ?_))))))) 
  (case zcu => first | exact hcu | rfl)
  (case zcx => first | exact hcx | rfl)
  (case zrs => first | exact hrs | rfl)
  (case zct => exact hct)
  (case zlv => exact hlv.mono fun q hq => hq)
  (case zll => exact fun q hq => (hll q hq))
  (case ztc => exact fun v hv => nomatch hv)
  (case ztw => exact fun v hv => (htw v hv).mono fun q hq => hq)
  (case zsix => (constructor <;> first | assumption | (apply Ne.symm; assumption)))
  (case ztlf => (intro q hq; (try simp only [List.mem_cons] at hq); rcases hq with hq <;> (dsimp only; first | (obtain ⟨z1, z2, z3, z4, z5, z6⟩ := htlf q hq; refine ⟨?_, ?_, ?_, ?_, ?_, ?_⟩ <;> first | assumption | exact t0 q (List.mem_append.mpr (.inl hq)) | exact t1 q (List.mem_append.mpr (.inl hq))) | (refine ⟨?_, ?_, ?_, ?_, ?_, ?_⟩ <;> first | assumption | exact Nat.ne_of_gt (by assumption) | exact ne_obj N2 (by k_mem) (by k_mem) tup_list | exact ne_obj N2 (by k_mem) (by k_mem) tup_dict))))
  (case zlan => exact hlan)
  (case zfxm => exact fun q hq => (hfxm q hq))
  (case zfxl => exact hfxl)
  (case zef => exact hef.imp id (fun ⟨ha, hb, hc⟩ => ⟨⟨ha.a1, ha.a2, ha.a3, ha.a4, ha.a5, ha.a6, ha.a7, ha.a8, ha.a9, ha.b1, ha.b2, ha.b3, ha.b4, ha.b5, ha.b6, ha.b7, ha.b8, ha.b9⟩, fun q hq => (hb q hq), hc⟩))
  (case zle1 => (have e1 := row_len ls cur; have e2 := row_len ls []; simp only [List.length_nil] at e2; dsimp only; omega))
  (case zle2 => (dsimp only; omega))
theorem stepReset {fx fe ow : List (Addr × Obj)} {d₀ : PD} {i : Nat} (B : Below callerA h₀ [] h₀) (X : (K w.params).In h₀) (T : Top p loose mean mg mb h₀) (S : Snd L oCE fx fe d₀ ⟨RW, KD, WT, P, D, CX, CU, RS, ls, cur, wvs, nR, nK, nW, nX, nC, nS, d, ta, td0, tp, tl⟩ ow i) (hi : i < 24) (F : Fr h₀ L s.heap (fun y => if y = Str.ofString "first" then some (Value.ref T1) else if y = Str.ofString "second" then some (Value.ref T2) else if y = Str.ofString "kind" then some kd else if y = Str.ofString "begin" then some (Value.int bg tb) else if y = Str.ofString "deed" then some (Value.int 10 td) else if y = Str.ofString "rest" then some (Value.int r tr) else if y = Str.ofString "rest" then bx else if y = Str.ofString "number" then nx else if y = Str.ofString "row" then some (Value.ref RW) else if y = Str.ofString "waiting" then some (Value.ref WT) else if y = Str.ofString "kinds" then some (Value.ref KD) else u y))
    (N : News h₀ L s.heap ((T2, ({ cls := .type "tuple", data := .seq #[.int (r.fmod 50 + 1) b1, .int (r + 1) b2] 0 } : Obj)) :: (T1, ({ cls := .type "tuple", data := .seq #[.int (r.fmod 50) a1, .int r tr] 0 } : Obj)) :: (RW, listOf (rowOf ls cur).toArray nR) :: (KD, listOf #[.str (Str.ofString "a") ta, .str (Str.ofString "d") td0, .str (Str.ofString "p") tp] nK) :: (WT, listOf wvs.toArray nW) :: (P, instObj 1367 D) :: (D, dictOf (d.es w) 13) :: (CX, listOf (ctxOf ls).toArray nX) :: (CU, listOf cur.toArray nC) :: (RS, listOf wvs.toArray nS) :: (L + 1, oCE) :: (tl ++ ow))) (l1 : (@LT.lt Nat _ (RW) T1 ∧ @LT.lt Nat _ (KD) T1 ∧ @LT.lt Nat _ (WT) T1 ∧ @LT.lt Nat _ (P) T1 ∧ @LT.lt Nat _ (D) T1 ∧ @LT.lt Nat _ (CX) T1 ∧ @LT.lt Nat _ (CU) T1 ∧ @LT.lt Nat _ (RS) T1 ∧ @LT.lt Nat _ (L + 1) T1 ∧ AllLt T1 (tl ++ ow))) (l2 : @LT.lt Nat _ T1 T2 ∧ @LT.lt Nat _ (RW) T2 ∧ @LT.lt Nat _ (KD) T2 ∧ @LT.lt Nat _ (WT) T2 ∧ @LT.lt Nat _ (P) T2 ∧ @LT.lt Nat _ (D) T2 ∧ @LT.lt Nat _ (CX) T2 ∧ @LT.lt Nat _ (CU) T2 ∧ @LT.lt Nat _ (RS) T2 ∧ @LT.lt Nat _ (L + 1) T2 ∧ AllLt T2 (tl ++ ow))
    (hr : 0 ≤ r) (hr2 : r < 10000) 
    (h : ∀ h' tk m' x', Good w L oCE fx fe d₀ x' h₀ h' m' ow (i + 1) → Q .next { s with heap := h', toks := tk }) :
    wpAny (model PySem.Challenge.rw_ae5031_04.row.prog w) (callerA.deeper (envOfC (Str.ofString "law") lawScope L fa cd)) (exec chain (envOfC (Str.ofString "law") lawScope L fa cd)) (fun f s' => match f with | .next => wpAny (model PySem.Challenge.rw_ae5031_04.row.prog w) (callerA.deeper (envOfC (Str.ofString "law") lawScope L fa cd)) (execs [] (envOfC (Str.ofString "law") lawScope L fa cd)) Q E s' | f => Q f s') E s := by
  obtain ⟨hce, hoff, hcu, hcx, hrs, hct, hlv, hll, htc, htw, n6, htlf, hlan, hfxm, hfxl, hef, hle1, hle2⟩ := S
  dsimp only at hce hoff hcu hcx hrs hct hlv hll htc htw n6 htlf hlan hfxm hfxl hef hle1 hle2
  obtain ⟨n1, n2, n3, n4, n5, n6, n7, n8, n9, n10, n11, n12, n13, n14, n15⟩ := n6
  have hlen : (rowOf ls cur).length ≤ 100 := by omega
  have hwl : ((wvs) : List Value).length ≤ 100 := Nat.le_trans hle2 (by omega)
  have hcl : cur.length ≤ 100 := Nat.le_trans (row_ge ls cur) hlen
  have hxl : (ctxOf ls).length ≤ 100 := by rw [ctx_len]; exact Nat.le_trans (ls_le ls cur) hlen
  obtain ⟨x1, x2, x3, x4, x5, x6, x7, x8, x9, xA⟩ := id l1
  obtain ⟨y0, y1, y2, y3, y4, y5, y6, y7, y8, y9, yA⟩ := id l2
  have oD : Off D [RW, KD, WT, P, CX, CU, RS, L + 1] := (off_con (ne_obj N (by k_mem) (by k_mem) dict_list) (off_con (ne_obj N (by k_mem) (by k_mem) dict_list) (off_con (ne_obj N (by k_mem) (by k_mem) dict_list) (off_con (ne_obj N (by k_mem) (by k_mem) inst_dict.symm) (off_con (ne_obj N (by k_mem) (by k_mem) dict_list) (off_con (ne_obj N (by k_mem) (by k_mem) dict_list) (off_con (ne_obj N (by k_mem) (by k_mem) dict_list) (off_con (ne_obj N (by k_mem) (by k_mem) (cell_dict hce).symm) (off_nil D)))))))))
  have tD : ∀ q ∈ tl ++ ow, q.1 ≠ D := fun q hq => (List.mem_append.mp hq).elim (fun h => (htlf q h).a3) (off_of hoff (by k_mem) q)
  refine deedReset (tl := tl ++ ow) B X T F N l1 l2 hce hlen hwl hcl hr hr2 oD tD ?_ ?_
  · intro h' tk m' RW' WT' A3 A2 A1 F2 mr2 mw2 mk2 N2 f0 g0 t0 t1 t2 t3 t4
    obtain ⟨f1, f2, f3, f4, f5⟩ := f0
    obtain ⟨g1, g2, g3, g4, g5, g6, g7, g8, g9, g10⟩ := g0
    refine h _ _ _ ⟨RW', KD, WT', P, D, A1, A2, A3, [], [], [], 0, nK, 0, 0, 0, 0, { d with context := .ref A1, curtype := .none, curstack := .ref A2, results := .ref A3 }, ta, td0, tp, tl⟩ ⟨F2, ?zN, mr2, mw2, mk2, hce, ?zoff, ?zcu, ?zcx, ?zrs, ?zct, ?zlv, ?zll, ?ztc, ?ztw, ?zsix, ?ztlf, ?zlan, ?zfxm, ?zfxl, ?zef, ?zle1, ?zle2⟩
    (case zN => (refine news_sub N2 ?_; simp only [Sd.led, List.cons_append]; (repeat' (first | exact fun q hq => hq | (refine sub_cons (by k_mem) ?_) | (refine sub_tail ?_)))))
    (case zoff => ((try simp only [List.map_cons]); (repeat' (refine off_cons ?_ ?_)); all_goals (first | exact off_of hoff (by k_mem) | exact (fun q hq => Nat.ne_of_lt (allNew_of xA q (List.mem_append.mpr (.inr hq)))) | exact (fun q hq => Nat.ne_of_lt (allNew_of yA q (List.mem_append.mpr (.inr hq)))) | (intro q hq; first | exact t0 q (List.mem_append.mpr (.inr hq)) | exact t1 q (List.mem_append.mpr (.inr hq)) | exact t2 q (List.mem_append.mpr (.inr hq)) | exact t3 q (List.mem_append.mpr (.inr hq)) | exact t4 q (List.mem_append.mpr (.inr hq))) | exact off_mono hoff (fun b hb => (by (repeat' (first | exact hb | refine List.Mem.tail _ ?_))))))) 
    (case zcu => first | exact hcu | rfl)
    (case zcx => first | exact hcx | rfl)
    (case zrs => first | exact hrs | rfl)
    (case zct => exact .nil)
    (case zlv => exact .nil)
    (case zll => exact fun q hq => nomatch hq)
    (case ztc => exact fun v hv => nomatch hv)
    (case ztw => exact fun v hv => nomatch hv)
    (case zsix => (constructor <;> first | assumption | (apply Ne.symm; assumption)))
    (case ztlf => (intro q hq; (try simp only [List.mem_cons] at hq); rcases hq with hq <;> (dsimp only; first | (obtain ⟨z1, z2, z3, z4, z5, z6⟩ := htlf q hq; refine ⟨?_, ?_, ?_, ?_, ?_, ?_⟩ <;> first | assumption | exact t0 q (List.mem_append.mpr (.inl hq)) | exact t1 q (List.mem_append.mpr (.inl hq)) | exact t2 q (List.mem_append.mpr (.inl hq)) | exact t3 q (List.mem_append.mpr (.inl hq)) | exact t4 q (List.mem_append.mpr (.inl hq))) | (refine ⟨?_, ?_, ?_, ?_, ?_, ?_⟩ <;> first | assumption | exact Nat.ne_of_gt (by assumption) | exact ne_obj N2 (by k_mem) (by k_mem) tup_list | exact ne_obj N2 (by k_mem) (by k_mem) tup_dict))))
    (case zlan => exact List.nodup_nil)
    (case zfxm => exact fun q hq => (hfxm q hq))
    (case zfxl => exact fun l hl => nomatch hl)
    (case zef => exact hef.imp id (fun ⟨ha, hb, hc⟩ => ⟨⟨ha.a1, ha.a2, ha.a3, ha.a4, ha.a5, ha.a6, ha.a7, ha.a8, ha.a9, ha.b1, ha.b2, ha.b3, ha.b4, ha.b5, ha.b6, ha.b7, ha.b8, ha.b9⟩, fun q hq => (hb q hq), (fun l hl => nomatch hl)⟩))
    (case zle1 => (exact Nat.zero_le _))
    (case zle2 => (exact Nat.zero_le _))
  · intro h' tk m' F2 mr2 mw2 mk2 N2
    refine h _ _ _ ⟨RW, KD, WT, P, D, CX, CU, RS, ls, cur, wvs, nR, nK, nW, nX, nC, nS, d, ta, td0, tp, tl⟩ ⟨F2, ?zN, mr2, mw2, mk2, hce, ?zoff, ?zcu, ?zcx, ?zrs, ?zct, ?zlv, ?zll, ?ztc, ?ztw, ?zsix, ?ztlf, ?zlan, ?zfxm, ?zfxl, ?zef, ?zle1, ?zle2⟩
    (case zN => (refine news_sub N2 ?_; simp only [Sd.led, List.cons_append]; (repeat' (first | exact fun q hq => hq | (refine sub_cons (by k_mem) ?_) | (refine sub_tail ?_)))))
    (case zoff => ((try simp only [List.map_cons]); (repeat' (refine off_cons ?_ ?_)); all_goals (first | exact off_of hoff (by k_mem) | exact (fun q hq => Nat.ne_of_lt (allNew_of xA q (List.mem_append.mpr (.inr hq)))) | exact (fun q hq => Nat.ne_of_lt (allNew_of yA q (List.mem_append.mpr (.inr hq)))) | (intro q hq; first | exact hfalse q (List.mem_append.mpr (.inr hq))) | exact off_mono hoff (fun b hb => (by (repeat' (first | exact hb | refine List.Mem.tail _ ?_))))))) 
    (case zcu => first | exact hcu | rfl)
    (case zcx => first | exact hcx | rfl)
    (case zrs => first | exact hrs | rfl)
    (case zct => exact hct)
    (case zlv => exact hlv.mono fun q hq => hq)
    (case zll => exact fun q hq => (hll q hq))
    (case ztc => exact fun v hv => (htc v hv).mono fun q hq => hq)
    (case ztw => exact fun v hv => (htw v hv).mono fun q hq => hq)
    (case zsix => (constructor <;> first | assumption | (apply Ne.symm; assumption)))
    (case ztlf => (intro q hq; (try simp only [List.mem_cons] at hq); rcases hq with hq <;> (dsimp only; first | (obtain ⟨z1, z2, z3, z4, z5, z6⟩ := htlf q hq; refine ⟨?_, ?_, ?_, ?_, ?_, ?_⟩ <;> first | assumption | exact hfalse q (List.mem_append.mpr (.inl hq))) | (refine ⟨?_, ?_, ?_, ?_, ?_, ?_⟩ <;> first | assumption | exact Nat.ne_of_gt (by assumption) | exact ne_obj N2 (by k_mem) (by k_mem) tup_list | exact ne_obj N2 (by k_mem) (by k_mem) tup_dict))))
    (case zlan => exact hlan)
    (case zfxm => exact fun q hq => (hfxm q hq))
    (case zfxl => exact hfxl)
    (case zef => exact hef.imp id (fun ⟨ha, hb, hc⟩ => ⟨⟨ha.a1, ha.a2, ha.a3, ha.a4, ha.a5, ha.a6, ha.a7, ha.a8, ha.a9, ha.b1, ha.b2, ha.b3, ha.b4, ha.b5, ha.b6, ha.b7, ha.b8, ha.b9⟩, fun q hq => (hb q hq), hc⟩))
    (case zle1 => (dsimp only; omega))
    (case zle2 => (dsimp only; omega))
theorem stepAsked2 {fx fe ow : List (Addr × Obj)} {d₀ : PD} {i : Nat} (B : Below callerA h₀ [] h₀) (X : (K w.params).In h₀) (T : Top p loose mean mg mb h₀) (S : Snd L oCE fx fe d₀ ⟨RW, KD, WT, P, D, CX, CU, RS, ls, cur, [], nR, nK, nW, nX, nC, nS, d, ta, td0, tp, tl⟩ ow i) (hi : i < 24) (F : Fr h₀ L s.heap (fun y => if y = Str.ofString "first" then some (Value.ref T1) else if y = Str.ofString "second" then some (Value.ref T2) else if y = Str.ofString "kind" then some kd else if y = Str.ofString "begin" then some (Value.int bg tb) else if y = Str.ofString "deed" then some (Value.int 9 td) else if y = Str.ofString "rest" then some (Value.int r tr) else if y = Str.ofString "rest" then bx else if y = Str.ofString "number" then nx else if y = Str.ofString "row" then some (Value.ref RW) else if y = Str.ofString "waiting" then some (Value.ref WT) else if y = Str.ofString "kinds" then some (Value.ref KD) else u y))
    (N : News h₀ L s.heap ((T2, ({ cls := .type "tuple", data := .seq #[.int (r.fmod 50 + 1) b1, .int (r + 1) b2] 0 } : Obj)) :: (T1, ({ cls := .type "tuple", data := .seq #[.int (r.fmod 50) a1, .int r tr] 0 } : Obj)) :: (RW, listOf (rowOf ls cur).toArray nR) :: (KD, listOf #[.str (Str.ofString "a") ta, .str (Str.ofString "d") td0, .str (Str.ofString "p") tp] nK) :: (WT, listOf #[] nW) :: (P, instObj 1367 D) :: (D, dictOf (d.es w) 13) :: (CX, listOf (ctxOf ls).toArray nX) :: (CU, listOf cur.toArray nC) :: (RS, listOf #[] nS) :: (L + 1, oCE) :: (tl ++ ow))) (l1 : (@LT.lt Nat _ (RW) T1 ∧ @LT.lt Nat _ (KD) T1 ∧ @LT.lt Nat _ (WT) T1 ∧ @LT.lt Nat _ (P) T1 ∧ @LT.lt Nat _ (D) T1 ∧ @LT.lt Nat _ (CX) T1 ∧ @LT.lt Nat _ (CU) T1 ∧ @LT.lt Nat _ (RS) T1 ∧ @LT.lt Nat _ (L + 1) T1 ∧ AllLt T1 (tl ++ ow))) (l2 : @LT.lt Nat _ T1 T2 ∧ @LT.lt Nat _ (RW) T2 ∧ @LT.lt Nat _ (KD) T2 ∧ @LT.lt Nat _ (WT) T2 ∧ @LT.lt Nat _ (P) T2 ∧ @LT.lt Nat _ (D) T2 ∧ @LT.lt Nat _ (CX) T2 ∧ @LT.lt Nat _ (CU) T2 ∧ @LT.lt Nat _ (RS) T2 ∧ @LT.lt Nat _ (L + 1) T2 ∧ AllLt T2 (tl ++ ow))
    (hr : 0 ≤ r) (hr2 : r < 10000) (heof : d.eof = .bool true)
    (h : ∀ h' tk m' x', Good w L oCE fx fe d₀ x' h₀ h' m' ow (i + 1) → Q .next { s with heap := h', toks := tk }) :
    wpAny (model PySem.Challenge.rw_ae5031_04.row.prog w) (callerA.deeper (envOfC (Str.ofString "law") lawScope L fa cd)) (exec chain (envOfC (Str.ofString "law") lawScope L fa cd)) (fun f s' => match f with | .next => wpAny (model PySem.Challenge.rw_ae5031_04.row.prog w) (callerA.deeper (envOfC (Str.ofString "law") lawScope L fa cd)) (execs [] (envOfC (Str.ofString "law") lawScope L fa cd)) Q E s' | f => Q f s') E s := by
  obtain ⟨hce, hoff, hcu, hcx, hrs, hct, hlv, hll, htc, htw, n6, htlf, hlan, hfxm, hfxl, hef, hle1, hle2⟩ := S
  dsimp only at hce hoff hcu hcx hrs hct hlv hll htc htw n6 htlf hlan hfxm hfxl hef hle1 hle2
  obtain ⟨n1, n2, n3, n4, n5, n6, n7, n8, n9, n10, n11, n12, n13, n14, n15⟩ := n6
  have hlen : (rowOf ls cur).length ≤ 100 := by omega
  have hwl : (([]) : List Value).length ≤ 100 := Nat.le_trans hle2 (by omega)
  have hcl : cur.length ≤ 100 := Nat.le_trans (row_ge ls cur) hlen
  have hxl : (ctxOf ls).length ≤ 100 := by rw [ctx_len]; exact Nat.le_trans (ls_le ls cur) hlen
  obtain ⟨x1, x2, x3, x4, x5, x6, x7, x8, x9, xA⟩ := id l1
  obtain ⟨y0, y1, y2, y3, y4, y5, y6, y7, y8, y9, yA⟩ := id l2
  refine deedAsked2 (tl := tl ++ ow) B X T F N l1 l2 hce hlen hwl hcl hr hr2 hrs heof rfl ?_
  intro h' tk m' WT' F2 mr2 mw2 mk2 N2 f0 t0
  obtain ⟨f1, f2, f3, f4, f5, f6⟩ := f0
  refine h _ _ _ ⟨RW, KD, WT', P, D, CX, CU, RS, ls, cur, [], nR, nK, 0, nX, nC, nS, d, ta, td0, tp, tl⟩ ⟨F2, ?zN, mr2, mw2, mk2, hce, ?zoff, ?zcu, ?zcx, ?zrs, ?zct, ?zlv, ?zll, ?ztc, ?ztw, ?zsix, ?ztlf, ?zlan, ?zfxm, ?zfxl, ?zef, ?zle1, ?zle2⟩
  (case zN => (refine news_sub N2 ?_; simp only [Sd.led, List.cons_append]; (repeat' (first | exact fun q hq => hq | (refine sub_cons (by k_mem) ?_) | (refine sub_tail ?_)))))
  (case zoff => ((try simp only [List.map_cons]); (repeat' (refine off_cons ?_ ?_)); all_goals (first | exact off_of hoff (by k_mem) | exact (fun q hq => Nat.ne_of_lt (allNew_of xA q (List.mem_append.mpr (.inr hq)))) | exact (fun q hq => Nat.ne_of_lt (allNew_of yA q (List.mem_append.mpr (.inr hq)))) | (intro q hq; first | exact t0 q (List.mem_append.mpr (.inr hq))) | exact off_mono hoff (fun b hb => (by (repeat' (first | exact hb | refine List.Mem.tail _ ?_))))))) 
  (case zcu => first | exact hcu | rfl)
  (case zcx => first | exact hcx | rfl)
  (case zrs => first | exact hrs | rfl)
  (case zct => exact hct)
  (case zlv => exact hlv.mono fun q hq => hq)
  (case zll => exact fun q hq => (hll q hq))
  (case ztc => exact fun v hv => (htc v hv).mono fun q hq => hq)
  (case ztw => exact fun v hv => (htw v hv).mono fun q hq => hq)
  (case zsix => (constructor <;> first | assumption | (apply Ne.symm; assumption)))
  (case ztlf => (intro q hq; (try simp only [List.mem_cons] at hq); rcases hq with hq <;> (dsimp only; first | (obtain ⟨z1, z2, z3, z4, z5, z6⟩ := htlf q hq; refine ⟨?_, ?_, ?_, ?_, ?_, ?_⟩ <;> first | assumption | exact t0 q (List.mem_append.mpr (.inl hq))) | (refine ⟨?_, ?_, ?_, ?_, ?_, ?_⟩ <;> first | assumption | exact Nat.ne_of_gt (by assumption) | exact ne_obj N2 (by k_mem) (by k_mem) tup_list | exact ne_obj N2 (by k_mem) (by k_mem) tup_dict))))
  (case zlan => exact hlan)
  (case zfxm => exact fun q hq => (hfxm q hq))
  (case zfxl => exact hfxl)
  (case zef => exact hef.imp id (fun ⟨ha, hb, hc⟩ => ⟨⟨ha.a1, ha.a2, ha.a3, ha.a4, ha.a5, ha.a6, ha.a7, ha.a8, ha.a9, ha.b1, ha.b2, ha.b3, ha.b4, ha.b5, ha.b6, ha.b7, ha.b8, ha.b9⟩, fun q hq => (hb q hq), hc⟩))
  (case zle1 => (dsimp only; omega))
  (case zle2 => (dsimp only; omega))
theorem stepStart {fx fe ow : List (Addr × Obj)} {d₀ : PD} {i : Nat} {k : Str} {tk1 : Tok} (B : Below callerA h₀ [] h₀) (X : (K w.params).In h₀) (T : Top p loose mean mg mb h₀) (S : Snd L oCE fx fe d₀ ⟨RW, KD, WT, P, D, CX, CU, RS, ls, cur, wvs, nR, nK, nW, nX, nC, nS, d, ta, td0, tp, tl⟩ ow i) (hi : i < 24) (F : Fr h₀ L s.heap (fun y => if y = Str.ofString "first" then some (Value.ref T1) else if y = Str.ofString "second" then some (Value.ref T2) else if y = Str.ofString "kind" then some (Value.str k tk1) else if y = Str.ofString "begin" then some (Value.int bg tb) else if y = Str.ofString "deed" then some (Value.int 3 td) else if y = Str.ofString "rest" then some (Value.int r tr) else if y = Str.ofString "rest" then bx else if y = Str.ofString "number" then nx else if y = Str.ofString "row" then some (Value.ref RW) else if y = Str.ofString "waiting" then some (Value.ref WT) else if y = Str.ofString "kinds" then some (Value.ref KD) else u y))
    (N : News h₀ L s.heap ((T2, ({ cls := .type "tuple", data := .seq #[.int (r.fmod 50 + 1) b1, .int (r + 1) b2] 0 } : Obj)) :: (T1, ({ cls := .type "tuple", data := .seq #[.int (r.fmod 50) a1, .int r tr] 0 } : Obj)) :: (RW, listOf (rowOf ls cur).toArray nR) :: (KD, listOf #[.str (Str.ofString "a") ta, .str (Str.ofString "d") td0, .str (Str.ofString "p") tp] nK) :: (WT, listOf wvs.toArray nW) :: (P, instObj 1367 D) :: (D, dictOf (d.es w) 13) :: (CX, listOf (ctxOf ls).toArray nX) :: (CU, listOf cur.toArray nC) :: (RS, listOf wvs.toArray nS) :: (L + 1, oCE) :: (tl ++ ow))) (l1 : (@LT.lt Nat _ (RW) T1 ∧ @LT.lt Nat _ (KD) T1 ∧ @LT.lt Nat _ (WT) T1 ∧ @LT.lt Nat _ (P) T1 ∧ @LT.lt Nat _ (D) T1 ∧ @LT.lt Nat _ (CX) T1 ∧ @LT.lt Nat _ (CU) T1 ∧ @LT.lt Nat _ (RS) T1 ∧ @LT.lt Nat _ (L + 1) T1 ∧ AllLt T1 (tl ++ ow))) (l2 : @LT.lt Nat _ T1 T2 ∧ @LT.lt Nat _ (RW) T2 ∧ @LT.lt Nat _ (KD) T2 ∧ @LT.lt Nat _ (WT) T2 ∧ @LT.lt Nat _ (P) T2 ∧ @LT.lt Nat _ (D) T2 ∧ @LT.lt Nat _ (CX) T2 ∧ @LT.lt Nat _ (CU) T2 ∧ @LT.lt Nat _ (RS) T2 ∧ @LT.lt Nat _ (L + 1) T2 ∧ AllLt T2 (tl ++ ow))
    (hr : 0 ≤ r) (hr2 : r < 10000) (hk : Kd k)
    (h : ∀ h' tk m' x', Good w L oCE fx fe d₀ x' h₀ h' m' ow (i + 1) → Q .next { s with heap := h', toks := tk }) :
    wpAny (model PySem.Challenge.rw_ae5031_04.row.prog w) (callerA.deeper (envOfC (Str.ofString "law") lawScope L fa cd)) (exec chain (envOfC (Str.ofString "law") lawScope L fa cd)) (fun f s' => match f with | .next => wpAny (model PySem.Challenge.rw_ae5031_04.row.prog w) (callerA.deeper (envOfC (Str.ofString "law") lawScope L fa cd)) (execs [] (envOfC (Str.ofString "law") lawScope L fa cd)) Q E s' | f => Q f s') E s := by
  obtain ⟨hce, hoff, hcu, hcx, hrs, hct, hlv, hll, htc, htw, n6, htlf, hlan, hfxm, hfxl, hef, hle1, hle2⟩ := S
  dsimp only at hce hoff hcu hcx hrs hct hlv hll htc htw n6 htlf hlan hfxm hfxl hef hle1 hle2
  obtain ⟨n1, n2, n3, n4, n5, n6, n7, n8, n9, n10, n11, n12, n13, n14, n15⟩ := n6
  have hlen : (rowOf ls cur).length ≤ 100 := by omega
  have hwl : ((wvs) : List Value).length ≤ 100 := Nat.le_trans hle2 (by omega)
  have hcl : cur.length ≤ 100 := Nat.le_trans (row_ge ls cur) hlen
  have hxl : (ctxOf ls).length ≤ 100 := by rw [ctx_len]; exact Nat.le_trans (ls_le ls cur) hlen
  obtain ⟨x1, x2, x3, x4, x5, x6, x7, x8, x9, xA⟩ := id l1
  obtain ⟨y0, y1, y2, y3, y4, y5, y6, y7, y8, y9, yA⟩ := id l2
  have oD : Off D [RW, KD, WT, P, CX, CU, RS, L + 1] := (off_con (ne_obj N (by k_mem) (by k_mem) dict_list) (off_con (ne_obj N (by k_mem) (by k_mem) dict_list) (off_con (ne_obj N (by k_mem) (by k_mem) dict_list) (off_con (ne_obj N (by k_mem) (by k_mem) inst_dict.symm) (off_con (ne_obj N (by k_mem) (by k_mem) dict_list) (off_con (ne_obj N (by k_mem) (by k_mem) dict_list) (off_con (ne_obj N (by k_mem) (by k_mem) dict_list) (off_con (ne_obj N (by k_mem) (by k_mem) (cell_dict hce).symm) (off_nil D)))))))))
  have tD : ∀ q ∈ tl ++ ow, q.1 ≠ D := fun q hq => (List.mem_append.mp hq).elim (fun h => (htlf q h).a3) (off_of hoff (by k_mem) q)
  have oCX : Off CX [RW, KD, WT, P, D, CU, RS, L + 1] := (off_con n3.symm (off_con n7.symm (off_con n10.symm (off_con (ne_obj N (by k_mem) (by k_mem) inst_list.symm) (off_con (ne_obj N (by k_mem) (by k_mem) dict_list.symm) (off_con n13 (off_con n14 (off_con (ne_obj N (by k_mem) (by k_mem) (cell_list hce).symm) (off_nil CX)))))))))
  have tCX : ∀ q ∈ tl ++ ow, q.1 ≠ CX := fun q hq => (List.mem_append.mp hq).elim (fun h => (htlf q h).a4) (off_of hoff (by k_mem) q)
  have hcn : d.curtype = .none ∨ ∃ k t, d.curtype = .str k t := hct.kind
  refine deedStart (tl := tl ++ ow) B X T F N l1 l2 hce hlen hwl hcl hr hr2 hcx hcn hcu hxl oD tD oCX tCX ?_
  intro h' tk m' RW' M A2 A1 tm tq F2 mr2 mw2 mk2 N2 f0 t0 g0 t1 t2 t3
  obtain ⟨f1, f2, f3, f4, f5, f6, f7⟩ := f0
  obtain ⟨g1, g2, g3, g4, g5, g6⟩ := g0
  have hnm : CU ∉ ls.map (·.LA) := fun hm => by
    obtain ⟨l, hl, e⟩ := List.mem_map.mp hm
    exact (htlf _ (hll _ (List.mem_map.mpr ⟨l, hl, rfl⟩))).a5 e
  have hcf : ∀ q ∈ tl, @Ne Nat CU q.1 := fun q hq => (htlf q hq).a5.symm
  have hup : ∀ q ∈ tl, q ∈ (M, ({ cls := .type "tuple", data := .seq #[Value.none, .int (r.fmod 50) tm, .str k tk1] 0 } : Obj)) :: (A1, ({ cls := .type "tuple", data := .seq #[Value.int (r.fmod 50) tq, d.curtype, Value.ref CU] 0 } : Obj)) :: (CU, listOf cur.toArray nC) :: tl := fun q hq => .tail _ (.tail _ (.tail _ hq))
  rw [List.push_toArray] at N2
  refine h _ _ _ ⟨RW', KD, WT, P, D, CX, A2, RS, ⟨CU, M, A1, cur, nC, r.fmod 50, k⟩ :: ls, [], wvs, 0, nK, nW, nX + 1, 0, nS, { d with curtype := Value.str k tk1, curstack := .ref A2 }, ta, td0, tp, (M, ({ cls := .type "tuple", data := .seq #[Value.none, .int (r.fmod 50) tm, .str k tk1] 0 } : Obj)) :: (A1, ({ cls := .type "tuple", data := .seq #[Value.int (r.fmod 50) tq, d.curtype, Value.ref CU] 0 } : Obj)) :: (CU, listOf cur.toArray nC) :: tl⟩ ⟨F2, ?zN, mr2, mw2, mk2, hce, ?zoff, ?zcu, ?zcx, ?zrs, ?zct, ?zlv, ?zll, ?ztc, ?ztw, ?zsix, ?ztlf, ?zlan, ?zfxm, ?zfxl, ?zef, ?zle1, ?zle2⟩
  (case zN => (refine news_sub N2 ?_; simp only [Sd.led, List.cons_append]; (repeat' (first | exact fun q hq => hq | (refine sub_cons (by k_mem) ?_) | (refine sub_tail ?_)))))
  (case zoff => ((try simp only [List.map_cons]); (repeat' (refine off_cons ?_ ?_)); all_goals (first | exact off_of hoff (by k_mem) | exact (fun q hq => Nat.ne_of_lt (allNew_of xA q (List.mem_append.mpr (.inr hq)))) | exact (fun q hq => Nat.ne_of_lt (allNew_of yA q (List.mem_append.mpr (.inr hq)))) | (intro q hq; first | exact t0 q (List.mem_append.mpr (.inr hq)) | exact t1 q (List.mem_append.mpr (.inr hq)) | exact t2 q (List.mem_append.mpr (.inr hq)) | exact t3 q (List.mem_append.mpr (.inr hq))) | exact off_mono hoff (fun b hb => (by (repeat' (first | exact hb | refine List.Mem.tail _ ?_))))))) 
  (case zcu => first | exact hcu | rfl)
  (case zcx => first | exact hcx | rfl)
  (case zrs => first | exact hrs | rfl)
  (case zct => exact .cons _ _ _)
  (case zlv => exact .cons (.head _) (.tail _ (.head _)) hct (fun v hv => (htc v hv).mono hup) hk (hlv.mono hup))
  (case zll => (intro q hq; rcases List.mem_cons.mp hq with rfl | hq; exact .tail _ (.tail _ (.head _)); exact hup q (hll q hq)))
  (case ztc => exact fun v hv => nomatch hv)
  (case ztw => exact fun v hv => (htw v hv).mono fun q hq => (.tail _ (.tail _ (.tail _ (hq)))))
  (case zsix => (constructor <;> first | assumption | (apply Ne.symm; assumption)))
  (case ztlf => (intro q hq; (try simp only [List.mem_cons] at hq); rcases hq with rfl | rfl | rfl | hq <;> (dsimp only; first | (obtain ⟨z1, z2, z3, z4, z5, z6⟩ := htlf q hq; refine ⟨?_, ?_, ?_, ?_, ?_, ?_⟩ <;> first | assumption | exact t0 q (List.mem_append.mpr (.inl hq)) | exact t1 q (List.mem_append.mpr (.inl hq)) | exact t2 q (List.mem_append.mpr (.inl hq)) | exact t3 q (List.mem_append.mpr (.inl hq))) | (refine ⟨?_, ?_, ?_, ?_, ?_, ?_⟩ <;> first | assumption | exact Nat.ne_of_gt (by assumption) | (apply Ne.symm; assumption) | exact (ne_obj N2 (by k_mem) (by k_mem) dict_list).symm | exact ne_obj N2 (by k_mem) (by k_mem) tup_list | exact ne_obj N2 (by k_mem) (by k_mem) tup_dict))))
  (case zlan => exact List.nodup_cons.mpr ⟨hnm, hlan⟩)
  (case zfxm => exact fun q hq => (.tail _ (.tail _ (.tail _ ((hfxm q hq))))))
  (case zfxl => (intro l hl q hq; rcases List.mem_cons.mp hl with rfl | hl; exact hcf q (hfxm q hq); exact hfxl l hl q hq))
  (case zef => exact hef.imp id (fun ⟨ha, hb, hc⟩ => ⟨⟨ha.a1, ha.a2, ha.a3, ha.a4, ha.a5, ha.a6, ha.a7, ha.a8, ha.a9, ha.b1, ha.b2, ha.b3, ha.b4, ha.b5, ha.b6, ha.b7, ha.b8, ha.b9⟩, fun q hq => (.tail _ (.tail _ (.tail _ ((hb q hq))))), (fun l hl q hq => by rcases List.mem_cons.mp hl with rfl | hl; exact hcf q (hb q hq); exact hc l hl q hq)⟩))
  (case zle1 => (have e1 := row_len ls cur; dsimp only [rowOf]; simp only [List.length_append, List.length_cons, List.length_nil]; omega))
  (case zle2 => (dsimp only; omega))
theorem stepAsked1 {fx fe ow : List (Addr × Obj)} {d₀ : PD} {i : Nat} {v9 : Value} {ws : List Value} (B : Below callerA h₀ [] h₀) (X : (K w.params).In h₀) (T : Top p loose mean mg mb h₀) (S : Snd L oCE fx fe d₀ ⟨RW, KD, WT, P, D, CX, CU, RS, ls, cur, v9 :: ws, nR, nK, nW, nX, nC, nS, d, ta, td0, tp, tl⟩ ow i) (hi : i < 24) (F : Fr h₀ L s.heap (fun y => if y = Str.ofString "first" then some (Value.ref T1) else if y = Str.ofString "second" then some (Value.ref T2) else if y = Str.ofString "kind" then some kd else if y = Str.ofString "begin" then some (Value.int bg tb) else if y = Str.ofString "deed" then some (Value.int 9 td) else if y = Str.ofString "rest" then some (Value.int r tr) else if y = Str.ofString "rest" then bx else if y = Str.ofString "number" then nx else if y = Str.ofString "row" then some (Value.ref RW) else if y = Str.ofString "waiting" then some (Value.ref WT) else if y = Str.ofString "kinds" then some (Value.ref KD) else u y))
    (N : News h₀ L s.heap ((T2, ({ cls := .type "tuple", data := .seq #[.int (r.fmod 50 + 1) b1, .int (r + 1) b2] 0 } : Obj)) :: (T1, ({ cls := .type "tuple", data := .seq #[.int (r.fmod 50) a1, .int r tr] 0 } : Obj)) :: (RW, listOf (rowOf ls cur).toArray nR) :: (KD, listOf #[.str (Str.ofString "a") ta, .str (Str.ofString "d") td0, .str (Str.ofString "p") tp] nK) :: (WT, listOf (v9 :: ws).toArray nW) :: (P, instObj 1367 D) :: (D, dictOf (d.es w) 13) :: (CX, listOf (ctxOf ls).toArray nX) :: (CU, listOf cur.toArray nC) :: (RS, listOf (v9 :: ws).toArray nS) :: (L + 1, oCE) :: (tl ++ ow))) (l1 : (@LT.lt Nat _ (RW) T1 ∧ @LT.lt Nat _ (KD) T1 ∧ @LT.lt Nat _ (WT) T1 ∧ @LT.lt Nat _ (P) T1 ∧ @LT.lt Nat _ (D) T1 ∧ @LT.lt Nat _ (CX) T1 ∧ @LT.lt Nat _ (CU) T1 ∧ @LT.lt Nat _ (RS) T1 ∧ @LT.lt Nat _ (L + 1) T1 ∧ AllLt T1 (tl ++ ow))) (l2 : @LT.lt Nat _ T1 T2 ∧ @LT.lt Nat _ (RW) T2 ∧ @LT.lt Nat _ (KD) T2 ∧ @LT.lt Nat _ (WT) T2 ∧ @LT.lt Nat _ (P) T2 ∧ @LT.lt Nat _ (D) T2 ∧ @LT.lt Nat _ (CX) T2 ∧ @LT.lt Nat _ (CU) T2 ∧ @LT.lt Nat _ (RS) T2 ∧ @LT.lt Nat _ (L + 1) T2 ∧ AllLt T2 (tl ++ ow))
    (hr : 0 ≤ r) (hr2 : r < 10000) 
    (h : ∀ h' tk m' x', Good w L oCE fx fe d₀ x' h₀ h' m' ow (i + 1) → Q .next { s with heap := h', toks := tk }) :
    wpAny (model PySem.Challenge.rw_ae5031_04.row.prog w) (callerA.deeper (envOfC (Str.ofString "law") lawScope L fa cd)) (exec chain (envOfC (Str.ofString "law") lawScope L fa cd)) (fun f s' => match f with | .next => wpAny (model PySem.Challenge.rw_ae5031_04.row.prog w) (callerA.deeper (envOfC (Str.ofString "law") lawScope L fa cd)) (execs [] (envOfC (Str.ofString "law") lawScope L fa cd)) Q E s' | f => Q f s') E s := by
  obtain ⟨hce, hoff, hcu, hcx, hrs, hct, hlv, hll, htc, htw, n6, htlf, hlan, hfxm, hfxl, hef, hle1, hle2⟩ := S
  dsimp only at hce hoff hcu hcx hrs hct hlv hll htc htw n6 htlf hlan hfxm hfxl hef hle1 hle2
  obtain ⟨n1, n2, n3, n4, n5, n6, n7, n8, n9, n10, n11, n12, n13, n14, n15⟩ := n6
  have hlen : (rowOf ls cur).length ≤ 100 := by omega
  have hwl : ((v9 :: ws) : List Value).length ≤ 100 := Nat.le_trans hle2 (by omega)
  have hcl : cur.length ≤ 100 := Nat.le_trans (row_ge ls cur) hlen
  have hxl : (ctxOf ls).length ≤ 100 := by rw [ctx_len]; exact Nat.le_trans (ls_le ls cur) hlen
  obtain ⟨x1, x2, x3, x4, x5, x6, x7, x8, x9, xA⟩ := id l1
  obtain ⟨y0, y1, y2, y3, y4, y5, y6, y7, y8, y9, yA⟩ := id l2
  have oRS : Off RS [RW, KD, WT, P, D, CX, CU, L + 1] := (off_con n5.symm (off_con n9.symm (off_con n12.symm (off_con (ne_obj N (by k_mem) (by k_mem) inst_list.symm) (off_con (ne_obj N (by k_mem) (by k_mem) dict_list.symm) (off_con n14.symm (off_con n15.symm (off_con (ne_obj N (by k_mem) (by k_mem) (cell_list hce).symm) (off_nil RS)))))))))
  have tRS : ∀ q ∈ tl ++ ow, q.1 ≠ RS := fun q hq => (List.mem_append.mp hq).elim (fun h => (htlf q h).a6) (off_of hoff (by k_mem) q)
  obtain ⟨TW, a9, t9, x9, k9, rfl, hTW⟩ := htw _ (.head _)
  have hTN := hTW
  have N1 : News h₀ L s.heap ((TW, ({ cls := .type "tuple", data := .seq #[.int a9 t9, x9] k9 } : Obj)) :: _) := fun q hq => (List.mem_cons.mp hq).elim (fun e => e ▸ N _ (by (repeat' (first | exact List.mem_append.mpr (.inl hTN) | refine List.Mem.tail _ ?_)))) (N q)
  have uT := htlf _ hTW
  have oTW : Off TW [RW, KD, WT, P, D, CX, CU, RS, L + 1] := off_con uT.a1 (off_con (ne_obj N1 (by k_mem) (by k_mem) tup_list) (off_con uT.a2 (off_con (ne_obj N1 (by k_mem) (by k_mem) inst_tup).symm (off_con uT.a3 (off_con uT.a4 (off_con uT.a5 (off_con uT.a6 (off_con (ne_obj N1 (by k_mem) (by k_mem) (cell_tup hce)).symm (off_nil _)))))))))
  have nT1 : @LT.lt Nat _ TW T1 := allNew_of xA _ (List.mem_append.mpr (.inl hTW))
  have nT2 : @LT.lt Nat _ TW T2 := allNew_of yA _ (List.mem_append.mpr (.inl hTW))
  have hwl' : ws.length ≤ 100 := by simp only [List.length_cons] at hwl; omega
  refine deedAsked1 (tl := tl ++ ow) B X T F N1 l1 l2 hce hlen hwl' hcl hr hr2 hrs rfl rfl oTW nT1 nT2 oRS tRS ?_
  intro h' tk m' WT' F2 mr2 mw2 mk2 N2 f0 t0
  obtain ⟨f1, f2, f3, f4, f5, f6⟩ := f0
  refine h _ _ _ ⟨RW, KD, WT', P, D, CX, CU, RS, ls, cur, ws, nR, nK, 0, nX, nC, nS + 1, d, ta, td0, tp, tl⟩ ⟨F2, ?zN, mr2, mw2, mk2, hce, ?zoff, ?zcu, ?zcx, ?zrs, ?zct, ?zlv, ?zll, ?ztc, ?ztw, ?zsix, ?ztlf, ?zlan, ?zfxm, ?zfxl, ?zef, ?zle1, ?zle2⟩
  (case zN => (refine news_sub N2 ?_; simp only [Sd.led, List.cons_append]; (repeat' (first | exact fun q hq => hq | (refine sub_cons (by k_mem) ?_) | (refine sub_tail ?_)))))
  (case zoff => ((try simp only [List.map_cons]); (repeat' (refine off_cons ?_ ?_)); all_goals (first | exact off_of hoff (by k_mem) | exact (fun q hq => Nat.ne_of_lt (allNew_of xA q (List.mem_append.mpr (.inr hq)))) | exact (fun q hq => Nat.ne_of_lt (allNew_of yA q (List.mem_append.mpr (.inr hq)))) | (intro q hq; first | exact t0 q (List.mem_append.mpr (.inr hq))) | exact off_mono hoff (fun b hb => (by (repeat' (first | exact hb | refine List.Mem.tail _ ?_))))))) 
  (case zcu => first | exact hcu | rfl)
  (case zcx => first | exact hcx | rfl)
  (case zrs => first | exact hrs | rfl)
  (case zct => exact hct)
  (case zlv => exact hlv.mono fun q hq => hq)
  (case zll => exact fun q hq => (hll q hq))
  (case ztc => exact fun v hv => (htc v hv).mono fun q hq => hq)
  (case ztw => exact fun v hv => htw v (.tail _ hv))
  (case zsix => (constructor <;> first | assumption | (apply Ne.symm; assumption)))
  (case ztlf => (intro q hq; (try simp only [List.mem_cons] at hq); rcases hq with hq <;> (dsimp only; first | (obtain ⟨z1, z2, z3, z4, z5, z6⟩ := htlf q hq; refine ⟨?_, ?_, ?_, ?_, ?_, ?_⟩ <;> first | assumption | exact t0 q (List.mem_append.mpr (.inl hq))) | (refine ⟨?_, ?_, ?_, ?_, ?_, ?_⟩ <;> first | assumption | exact Nat.ne_of_gt (by assumption) | exact ne_obj N2 (by k_mem) (by k_mem) tup_list | exact ne_obj N2 (by k_mem) (by k_mem) tup_dict))))
  (case zlan => exact hlan)
  (case zfxm => exact fun q hq => (hfxm q hq))
  (case zfxl => exact hfxl)
  (case zef => exact hef.imp id (fun ⟨ha, hb, hc⟩ => ⟨⟨ha.a1, ha.a2, ha.a3, ha.a4, ha.a5, ha.a6, ha.a7, ha.a8, ha.a9, ha.b1, ha.b2, ha.b3, ha.b4, ha.b5, ha.b6, ha.b7, ha.b8, ha.b9⟩, fun q hq => (hb q hq), hc⟩))
  (case zle1 => (dsimp only; omega))
  (case zle2 => ((dsimp only; simp only [List.length_cons] at hle2; omega)))
theorem stepPop {fx fe ow : List (Addr × Obj)} {d₀ : PD} {i : Nat} (B : Below callerA h₀ [] h₀) (X : (K w.params).In h₀) (T : Top p loose mean mg mb h₀) (S : Snd L oCE fx fe d₀ ⟨RW, KD, WT, P, D, CX, CU, RS, ls, cur, wvs, nR, nK, nW, nX, nC, nS, d, ta, td0, tp, tl⟩ ow i) (hi : i < 24) (F : Fr h₀ L s.heap (fun y => if y = Str.ofString "first" then some (Value.ref T1) else if y = Str.ofString "second" then some (Value.ref T2) else if y = Str.ofString "kind" then some kd else if y = Str.ofString "begin" then some (Value.int ((begJ ls : Int) - 1) tb) else if y = Str.ofString "deed" then some (Value.int 6 td) else if y = Str.ofString "rest" then some (Value.int r tr) else if y = Str.ofString "rest" then bx else if y = Str.ofString "number" then nx else if y = Str.ofString "row" then some (Value.ref RW) else if y = Str.ofString "waiting" then some (Value.ref WT) else if y = Str.ofString "kinds" then some (Value.ref KD) else u y))
    (N : News h₀ L s.heap ((T2, ({ cls := .type "tuple", data := .seq #[.int (r.fmod 50 + 1) b1, .int (r + 1) b2] 0 } : Obj)) :: (T1, ({ cls := .type "tuple", data := .seq #[.int (r.fmod 50) a1, .int r tr] 0 } : Obj)) :: (RW, listOf (rowOf ls cur).toArray nR) :: (KD, listOf #[.str (Str.ofString "a") ta, .str (Str.ofString "d") td0, .str (Str.ofString "p") tp] nK) :: (WT, listOf wvs.toArray nW) :: (P, instObj 1367 D) :: (D, dictOf (d.es w) 13) :: (CX, listOf (ctxOf ls).toArray nX) :: (CU, listOf cur.toArray nC) :: (RS, listOf wvs.toArray nS) :: (L + 1, oCE) :: (tl ++ ow))) (l1 : (@LT.lt Nat _ (RW) T1 ∧ @LT.lt Nat _ (KD) T1 ∧ @LT.lt Nat _ (WT) T1 ∧ @LT.lt Nat _ (P) T1 ∧ @LT.lt Nat _ (D) T1 ∧ @LT.lt Nat _ (CX) T1 ∧ @LT.lt Nat _ (CU) T1 ∧ @LT.lt Nat _ (RS) T1 ∧ @LT.lt Nat _ (L + 1) T1 ∧ AllLt T1 (tl ++ ow))) (l2 : @LT.lt Nat _ T1 T2 ∧ @LT.lt Nat _ (RW) T2 ∧ @LT.lt Nat _ (KD) T2 ∧ @LT.lt Nat _ (WT) T2 ∧ @LT.lt Nat _ (P) T2 ∧ @LT.lt Nat _ (D) T2 ∧ @LT.lt Nat _ (CX) T2 ∧ @LT.lt Nat _ (CU) T2 ∧ @LT.lt Nat _ (RS) T2 ∧ @LT.lt Nat _ (L + 1) T2 ∧ AllLt T2 (tl ++ ow))
    (hr : 0 ≤ r) (hr2 : r < 10000) 
    (h : ∀ h' tk m' x', Good w L oCE fx fe d₀ x' h₀ h' m' ow (i + 1) → Q .next { s with heap := h', toks := tk }) :
    wpAny (model PySem.Challenge.rw_ae5031_04.row.prog w) (callerA.deeper (envOfC (Str.ofString "law") lawScope L fa cd)) (exec chain (envOfC (Str.ofString "law") lawScope L fa cd)) (fun f s' => match f with | .next => wpAny (model PySem.Challenge.rw_ae5031_04.row.prog w) (callerA.deeper (envOfC (Str.ofString "law") lawScope L fa cd)) (execs [] (envOfC (Str.ofString "law") lawScope L fa cd)) Q E s' | f => Q f s') E s := by
  obtain ⟨hce, hoff, hcu, hcx, hrs, hct, hlv, hll, htc, htw, n6, htlf, hlan, hfxm, hfxl, hef, hle1, hle2⟩ := S
  dsimp only at hce hoff hcu hcx hrs hct hlv hll htc htw n6 htlf hlan hfxm hfxl hef hle1 hle2
  obtain ⟨n1, n2, n3, n4, n5, n6, n7, n8, n9, n10, n11, n12, n13, n14, n15⟩ := n6
  have hlen : (rowOf ls cur).length ≤ 100 := by omega
  have hwl : ((wvs) : List Value).length ≤ 100 := Nat.le_trans hle2 (by omega)
  have hcl : cur.length ≤ 100 := Nat.le_trans (row_ge ls cur) hlen
  have hxl : (ctxOf ls).length ≤ 100 := by rw [ctx_len]; exact Nat.le_trans (ls_le ls cur) hlen
  obtain ⟨x1, x2, x3, x4, x5, x6, x7, x8, x9, xA⟩ := id l1
  obtain ⟨y0, y1, y2, y3, y4, y5, y6, y7, y8, y9, yA⟩ := id l2
  have oCU : Off CU [RW, KD, WT, P, D, CX, RS, L + 1] := (off_con n4.symm (off_con n8.symm (off_con n11.symm (off_con (ne_obj N (by k_mem) (by k_mem) inst_list.symm) (off_con (ne_obj N (by k_mem) (by k_mem) dict_list.symm) (off_con n13.symm (off_con n15 (off_con (ne_obj N (by k_mem) (by k_mem) (cell_list hce).symm) (off_nil CU)))))))))
  have tCU : ∀ q ∈ tl ++ ow, q.1 ≠ CU := fun q hq => (List.mem_append.mp hq).elim (fun h => (htlf q h).a5) (off_of hoff (by k_mem) q)
  have e0 := row_len ls cur
  have q0 : 0 ≤ r.fmod 3 := Int.fmod_nonneg_of_pos _ (by decide)
  have q3 : r.fmod 3 < 3 := Int.fmod_lt_of_pos _ (by decide)
  obtain ⟨kk, hkk⟩ : ∃ kk : Nat, 1 + r.fmod 3 = (kk : Int) := ⟨(1 + r.fmod 3).toNat, by omega⟩
  have hk1 : 1 ≤ kk := by omega
  have hmin : (((rowOf ls cur).length : Int) - if ((rowOf ls cur).length : Int) - ((begJ ls : Int) - 1) - 1 < 1 + r.fmod 3 then ((rowOf ls cur).length : Int) - ((begJ ls : Int) - 1) - 1 else 1 + r.fmod 3) = (((rowOf ls cur).length - min cur.length kk : Nat) : Int) := by
    rw [hkk]; split <;> omega
  have hx0 : 0 ≤ (((rowOf ls cur).length : Int) - if ((rowOf ls cur).length : Int) - ((begJ ls : Int) - 1) - 1 < 1 + r.fmod 3 then ((rowOf ls cur).length : Int) - ((begJ ls : Int) - 1) - 1 else 1 + r.fmod 3) := by rw [hmin]; omega
  have hmk : cur.length - min cur.length kk = cur.length - kk := by omega
  have hd1 : (rowOf ls cur).drop (((rowOf ls cur).length : Int) - if ((rowOf ls cur).length : Int) - ((begJ ls : Int) - 1) - 1 < 1 + r.fmod 3 then ((rowOf ls cur).length : Int) - ((begJ ls : Int) - 1) - 1 else 1 + r.fmod 3).toNat = cur.drop (cur.length - kk) := by rw [hmin, Int.toNat_natCast, row_cut2 ls cur _ (Nat.min_le_left _ _), hmk]
  have hd2 : (rowOf ls cur).take (((rowOf ls cur).length : Int) - if ((rowOf ls cur).length : Int) - ((begJ ls : Int) - 1) - 1 < 1 + r.fmod 3 then ((rowOf ls cur).length : Int) - ((begJ ls : Int) - 1) - 1 else 1 + r.fmod 3).toNat = rowOf ls (cur.take (cur.length - kk)) := by rw [hmin, Int.toNat_natCast, row_cut ls cur _ (Nat.min_le_left _ _), hmk]
  refine deedPop (tl := tl ++ ow) B X T F N l1 l2 hce hlen hwl hcl hr hr2 hcu hx0 hk1 hkk hd1 hd2 oCU tCU ?_
  intro h' tk m' RW' nC' F2 mr2 mw2 mk2 N2 f0 t0
  obtain ⟨f1, f2, f3, f4, f5, f6⟩ := f0
  refine h _ _ _ ⟨RW', KD, WT, P, D, CX, CU, RS, ls, cur.take (cur.length - kk), wvs, 0, nK, nW, nX, nC', nS, d, ta, td0, tp, tl⟩ ⟨F2, ?zN, mr2, mw2, mk2, hce, ?zoff, ?zcu, ?zcx, ?zrs, ?zct, ?zlv, ?zll, ?ztc, ?ztw, ?zsix, ?ztlf, ?zlan, ?zfxm, ?zfxl, ?zef, ?zle1, ?zle2⟩
  (case zN => (refine news_sub N2 ?_; simp only [Sd.led, List.cons_append]; (repeat' (first | exact fun q hq => hq | (refine sub_cons (by k_mem) ?_) | (refine sub_tail ?_)))))
  (case zoff => ((try simp only [List.map_cons]); (repeat' (refine off_cons ?_ ?_)); all_goals (first | exact off_of hoff (by k_mem) | exact (fun q hq => Nat.ne_of_lt (allNew_of xA q (List.mem_append.mpr (.inr hq)))) | exact (fun q hq => Nat.ne_of_lt (allNew_of yA q (List.mem_append.mpr (.inr hq)))) | (intro q hq; first | exact t0 q (List.mem_append.mpr (.inr hq))) | exact off_mono hoff (fun b hb => (by (repeat' (first | exact hb | refine List.Mem.tail _ ?_))))))) 
  (case zcu => first | exact hcu | rfl)
  (case zcx => first | exact hcx | rfl)
  (case zrs => first | exact hrs | rfl)
  (case zct => exact hct)
  (case zlv => exact hlv.mono fun q hq => hq)
  (case zll => exact fun q hq => (hll q hq))
  (case ztc => exact fun v hv => htc v (List.mem_of_mem_take hv))
  (case ztw => exact fun v hv => (htw v hv).mono fun q hq => hq)
  (case zsix => (constructor <;> first | assumption | (apply Ne.symm; assumption)))
  (case ztlf => (intro q hq; (try simp only [List.mem_cons] at hq); rcases hq with hq <;> (dsimp only; first | (obtain ⟨z1, z2, z3, z4, z5, z6⟩ := htlf q hq; refine ⟨?_, ?_, ?_, ?_, ?_, ?_⟩ <;> first | assumption | exact t0 q (List.mem_append.mpr (.inl hq))) | (refine ⟨?_, ?_, ?_, ?_, ?_, ?_⟩ <;> first | assumption | exact Nat.ne_of_gt (by assumption) | exact ne_obj N2 (by k_mem) (by k_mem) tup_list | exact ne_obj N2 (by k_mem) (by k_mem) tup_dict))))
  (case zlan => exact hlan)
  (case zfxm => exact fun q hq => (hfxm q hq))
  (case zfxl => exact hfxl)
  (case zef => exact hef.imp id (fun ⟨ha, hb, hc⟩ => ⟨⟨ha.a1, ha.a2, ha.a3, ha.a4, ha.a5, ha.a6, ha.a7, ha.a8, ha.a9, ha.b1, ha.b2, ha.b3, ha.b4, ha.b5, ha.b6, ha.b7, ha.b8, ha.b9⟩, fun q hq => (hb q hq), hc⟩))
  (case zle1 => (have e1 := row_len ls cur; have e2 := row_len ls (cur.take (cur.length - kk)); have e3 := List.length_take_le (cur.length - kk) cur; dsimp only; omega))
  (case zle2 => (dsimp only; omega))
theorem stepEndB {fx fe ow : List (Addr × Obj)} {d₀ : PD} {i : Nat} {k lk : Str} {tk1 : Tok} {LA MA CA : Addr} {items : List Value} {nL : Nat} {pos : Int} (B : Below callerA h₀ [] h₀) (X : (K w.params).In h₀) (T : Top p loose mean mg mb h₀) (S : Snd L oCE fx fe d₀ ⟨RW, KD, WT, P, D, CX, CU, RS, (⟨LA, MA, CA, items, nL, pos, lk⟩ :: ls), cur, wvs, nR, nK, nW, nX, nC, nS, d, ta, td0, tp, tl⟩ ow i) (hi : i < 24) (F : Fr h₀ L s.heap (fun y => if y = Str.ofString "first" then some (Value.ref T1) else if y = Str.ofString "second" then some (Value.ref T2) else if y = Str.ofString "kind" then some (Value.str k tk1) else if y = Str.ofString "begin" then some (Value.int ((begJ (⟨LA, MA, CA, items, nL, pos, lk⟩ :: ls) : Int) - 1) tb) else if y = Str.ofString "deed" then some (Value.int 4 td) else if y = Str.ofString "rest" then some (Value.int r tr) else if y = Str.ofString "rest" then bx else if y = Str.ofString "number" then nx else if y = Str.ofString "row" then some (Value.ref RW) else if y = Str.ofString "waiting" then some (Value.ref WT) else if y = Str.ofString "kinds" then some (Value.ref KD) else u y))
    (N : News h₀ L s.heap ((T2, ({ cls := .type "tuple", data := .seq #[.int (r.fmod 50 + 1) b1, .int (r + 1) b2] 0 } : Obj)) :: (T1, ({ cls := .type "tuple", data := .seq #[.int (r.fmod 50) a1, .int r tr] 0 } : Obj)) :: (RW, listOf (rowOf (⟨LA, MA, CA, items, nL, pos, lk⟩ :: ls) cur).toArray nR) :: (KD, listOf #[.str (Str.ofString "a") ta, .str (Str.ofString "d") td0, .str (Str.ofString "p") tp] nK) :: (WT, listOf wvs.toArray nW) :: (P, instObj 1367 D) :: (D, dictOf (d.es w) 13) :: (CX, listOf (ctxOf (⟨LA, MA, CA, items, nL, pos, lk⟩ :: ls)).toArray nX) :: (CU, listOf cur.toArray nC) :: (RS, listOf wvs.toArray nS) :: (L + 1, oCE) :: (tl ++ ow))) (l1 : (@LT.lt Nat _ (RW) T1 ∧ @LT.lt Nat _ (KD) T1 ∧ @LT.lt Nat _ (WT) T1 ∧ @LT.lt Nat _ (P) T1 ∧ @LT.lt Nat _ (D) T1 ∧ @LT.lt Nat _ (CX) T1 ∧ @LT.lt Nat _ (CU) T1 ∧ @LT.lt Nat _ (RS) T1 ∧ @LT.lt Nat _ (L + 1) T1 ∧ AllLt T1 (tl ++ ow))) (l2 : @LT.lt Nat _ T1 T2 ∧ @LT.lt Nat _ (RW) T2 ∧ @LT.lt Nat _ (KD) T2 ∧ @LT.lt Nat _ (WT) T2 ∧ @LT.lt Nat _ (P) T2 ∧ @LT.lt Nat _ (D) T2 ∧ @LT.lt Nat _ (CX) T2 ∧ @LT.lt Nat _ (CU) T2 ∧ @LT.lt Nat _ (RS) T2 ∧ @LT.lt Nat _ (L + 1) T2 ∧ AllLt T2 (tl ++ ow))
    (hr : 0 ≤ r) (hr2 : r < 10000) (hk : Kd k) (hne : lk ≠ k)
    (h : ∀ h' tk m' x', Good w L oCE fx fe d₀ x' h₀ h' m' ow (i + 1) → Q .next { s with heap := h', toks := tk }) :
    wpAny (model PySem.Challenge.rw_ae5031_04.row.prog w) (callerA.deeper (envOfC (Str.ofString "law") lawScope L fa cd)) (exec chain (envOfC (Str.ofString "law") lawScope L fa cd)) (fun f s' => match f with | .next => wpAny (model PySem.Challenge.rw_ae5031_04.row.prog w) (callerA.deeper (envOfC (Str.ofString "law") lawScope L fa cd)) (execs [] (envOfC (Str.ofString "law") lawScope L fa cd)) Q E s' | f => Q f s') E s := by
  obtain ⟨hce, hoff, hcu, hcx, hrs, hct, hlv, hll, htc, htw, n6, htlf, hlan, hfxm, hfxl, hef, hle1, hle2⟩ := S
  dsimp only at hce hoff hcu hcx hrs hct hlv hll htc htw n6 htlf hlan hfxm hfxl hef hle1 hle2
  obtain ⟨n1, n2, n3, n4, n5, n6, n7, n8, n9, n10, n11, n12, n13, n14, n15⟩ := n6
  have hlen : (rowOf (⟨LA, MA, CA, items, nL, pos, lk⟩ :: ls) cur).length ≤ 100 := by omega
  have hwl : ((wvs) : List Value).length ≤ 100 := Nat.le_trans hle2 (by omega)
  have hcl : cur.length ≤ 100 := Nat.le_trans (row_ge (⟨LA, MA, CA, items, nL, pos, lk⟩ :: ls) cur) hlen
  have hxl : (ctxOf (⟨LA, MA, CA, items, nL, pos, lk⟩ :: ls)).length ≤ 100 := by rw [ctx_len]; exact Nat.le_trans (ls_le (⟨LA, MA, CA, items, nL, pos, lk⟩ :: ls) cur) hlen
  obtain ⟨x1, x2, x3, x4, x5, x6, x7, x8, x9, xA⟩ := id l1
  obtain ⟨y0, y1, y2, y3, y4, y5, y6, y7, y8, y9, yA⟩ := id l2
  obtain ⟨ltk2, hctk⟩ := hct.cons_eq
  cases hlv with
  | @cons _ _ tm ltk tq ct km hM hC hcto hTo hko hro =>
  have hlv : LevsOk tl (⟨LA, MA, CA, items, nL, pos, lk⟩ :: ls) := .cons hM hC hcto hTo hko hro
  dsimp only at hM hC hctk hko
  have N1 : News h₀ L s.heap ((MA, ({ cls := .type "tuple", data := .seq #[Value.none, .int pos tm, .str lk ltk] km } : Obj)) :: _) := fun q hq => (List.mem_cons.mp hq).elim (fun e => e ▸ N _ (by (repeat' (first | exact List.mem_append.mpr (.inl hM) | refine List.Mem.tail _ ?_)))) (N q)
  have hbg : 0 ≤ ((begJ (⟨LA, MA, CA, items, nL, pos, lk⟩ :: ls) : Nat) : Int) - 1 := by simp only [begJ]; omega
  have hxM : (rowOf (⟨LA, MA, CA, items, nL, pos, lk⟩ :: ls) cur)[(((begJ (⟨LA, MA, CA, items, nL, pos, lk⟩ :: ls) : Nat) : Int) - 1).toNat]? = some (Value.ref MA) := by
    rw [show (((begJ (⟨LA, MA, CA, items, nL, pos, lk⟩ :: ls) : Nat) : Int) - 1).toNat = (rowOf ls items).length by simp only [begJ]; omega]
    exact row_at _ _ _
  refine deedEndB (j := begJ (⟨LA, MA, CA, items, nL, pos, lk⟩ :: ls)) (ls := (⟨LA, MA, CA, items, nL, pos, lk⟩ :: ls)) (tl := tl ++ ow) B X T F N1 l1 l2 hce hlen hwl hcl hr hr2 hctk hne hbg hk.repr hko.repr hxM ?_
  intro h' tk m' F2 mr2 mw2 mk2 N2
  refine h _ _ _ ⟨RW, KD, WT, P, D, CX, CU, RS, (⟨LA, MA, CA, items, nL, pos, lk⟩ :: ls), cur, wvs, nR, nK, nW, nX, nC, nS, d, ta, td0, tp, tl⟩ ⟨F2, ?zN, mr2, mw2, mk2, hce, ?zoff, ?zcu, ?zcx, ?zrs, ?zct, ?zlv, ?zll, ?ztc, ?ztw, ?zsix, ?ztlf, ?zlan, ?zfxm, ?zfxl, ?zef, ?zle1, ?zle2⟩
  (case zN => (refine news_sub N2 ?_; simp only [Sd.led, List.cons_append]; (repeat' (first | exact fun q hq => hq | (refine sub_cons (by k_mem) ?_) | (refine sub_tail ?_)))))
  (case zoff => ((try simp only [List.map_cons]); (repeat' (refine off_cons ?_ ?_)); all_goals (first | exact off_of hoff (by k_mem) | exact (fun q hq => Nat.ne_of_lt (allNew_of xA q (List.mem_append.mpr (.inr hq)))) | exact (fun q hq => Nat.ne_of_lt (allNew_of yA q (List.mem_append.mpr (.inr hq)))) | (intro q hq; first | exact hfalse q (List.mem_append.mpr (.inr hq))) | exact off_mono hoff (fun b hb => (by (repeat' (first | exact hb | refine List.Mem.tail _ ?_))))))) 
  (case zcu => first | exact hcu | rfl)
  (case zcx => first | exact hcx | rfl)
  (case zrs => first | exact hrs | rfl)
  (case zct => exact hct)
  (case zlv => exact hlv.mono fun q hq => hq)
  (case zll => exact fun q hq => (hll q hq))
  (case ztc => exact fun v hv => (htc v hv).mono fun q hq => hq)
  (case ztw => exact fun v hv => (htw v hv).mono fun q hq => hq)
  (case zsix => (constructor <;> first | assumption | (apply Ne.symm; assumption)))
  (case ztlf => (intro q hq; (try simp only [List.mem_cons] at hq); rcases hq with hq <;> (dsimp only; first | (obtain ⟨z1, z2, z3, z4, z5, z6⟩ := htlf q hq; refine ⟨?_, ?_, ?_, ?_, ?_, ?_⟩ <;> first | assumption | exact hfalse q (List.mem_append.mpr (.inl hq))) | (refine ⟨?_, ?_, ?_, ?_, ?_, ?_⟩ <;> first | assumption | exact Nat.ne_of_gt (by assumption) | exact ne_obj N2 (by k_mem) (by k_mem) tup_list | exact ne_obj N2 (by k_mem) (by k_mem) tup_dict))))
  (case zlan => exact hlan)
  (case zfxm => exact fun q hq => (hfxm q hq))
  (case zfxl => exact hfxl)
  (case zef => exact hef.imp id (fun ⟨ha, hb, hc⟩ => ⟨⟨ha.a1, ha.a2, ha.a3, ha.a4, ha.a5, ha.a6, ha.a7, ha.a8, ha.a9, ha.b1, ha.b2, ha.b3, ha.b4, ha.b5, ha.b6, ha.b7, ha.b8, ha.b9⟩, fun q hq => (hb q hq), hc⟩))
  (case zle1 => (dsimp only; omega))
  (case zle2 => (dsimp only; omega))
theorem stepEndA4 {fx fe ow : List (Addr × Obj)} {d₀ : PD} {i : Nat} {k : Str} {tk1 : Tok} (B : Below callerA h₀ [] h₀) (X : (K w.params).In h₀) (T : Top p loose mean mg mb h₀) (S : Snd L oCE fx fe d₀ ⟨RW, KD, WT, P, D, CX, CU, RS, [], cur, wvs, nR, nK, nW, nX, nC, nS, d, ta, td0, tp, tl⟩ ow i) (hi : i < 24) (F : Fr h₀ L s.heap (fun y => if y = Str.ofString "first" then some (Value.ref T1) else if y = Str.ofString "second" then some (Value.ref T2) else if y = Str.ofString "kind" then some (Value.str k tk1) else if y = Str.ofString "begin" then some (Value.int ((begJ ([] : List Lev) : Int) - 1) tb) else if y = Str.ofString "deed" then some (Value.int 4 td) else if y = Str.ofString "rest" then some (Value.int r tr) else if y = Str.ofString "rest" then bx else if y = Str.ofString "number" then nx else if y = Str.ofString "row" then some (Value.ref RW) else if y = Str.ofString "waiting" then some (Value.ref WT) else if y = Str.ofString "kinds" then some (Value.ref KD) else u y))
    (N : News h₀ L s.heap ((T2, ({ cls := .type "tuple", data := .seq #[.int (r.fmod 50 + 1) b1, .int (r + 1) b2] 0 } : Obj)) :: (T1, ({ cls := .type "tuple", data := .seq #[.int (r.fmod 50) a1, .int r tr] 0 } : Obj)) :: (RW, listOf (rowOf [] cur).toArray nR) :: (KD, listOf #[.str (Str.ofString "a") ta, .str (Str.ofString "d") td0, .str (Str.ofString "p") tp] nK) :: (WT, listOf wvs.toArray nW) :: (P, instObj 1367 D) :: (D, dictOf (d.es w) 13) :: (CX, listOf (ctxOf []).toArray nX) :: (CU, listOf cur.toArray nC) :: (RS, listOf wvs.toArray nS) :: (L + 1, oCE) :: (tl ++ ow))) (l1 : (@LT.lt Nat _ (RW) T1 ∧ @LT.lt Nat _ (KD) T1 ∧ @LT.lt Nat _ (WT) T1 ∧ @LT.lt Nat _ (P) T1 ∧ @LT.lt Nat _ (D) T1 ∧ @LT.lt Nat _ (CX) T1 ∧ @LT.lt Nat _ (CU) T1 ∧ @LT.lt Nat _ (RS) T1 ∧ @LT.lt Nat _ (L + 1) T1 ∧ AllLt T1 (tl ++ ow))) (l2 : @LT.lt Nat _ T1 T2 ∧ @LT.lt Nat _ (RW) T2 ∧ @LT.lt Nat _ (KD) T2 ∧ @LT.lt Nat _ (WT) T2 ∧ @LT.lt Nat _ (P) T2 ∧ @LT.lt Nat _ (D) T2 ∧ @LT.lt Nat _ (CX) T2 ∧ @LT.lt Nat _ (CU) T2 ∧ @LT.lt Nat _ (RS) T2 ∧ @LT.lt Nat _ (L + 1) T2 ∧ AllLt T2 (tl ++ ow))
    (hr : 0 ≤ r) (hr2 : r < 10000) (hk : Kd k)
    (h : ∀ h' tk m' x', Good w L oCE fx fe d₀ x' h₀ h' m' ow (i + 1) → Q .next { s with heap := h', toks := tk }) :
    wpAny (model PySem.Challenge.rw_ae5031_04.row.prog w) (callerA.deeper (envOfC (Str.ofString "law") lawScope L fa cd)) (exec chain (envOfC (Str.ofString "law") lawScope L fa cd)) (fun f s' => match f with | .next => wpAny (model PySem.Challenge.rw_ae5031_04.row.prog w) (callerA.deeper (envOfC (Str.ofString "law") lawScope L fa cd)) (execs [] (envOfC (Str.ofString "law") lawScope L fa cd)) Q E s' | f => Q f s') E s := by
  obtain ⟨hce, hoff, hcu, hcx, hrs, hct, hlv, hll, htc, htw, n6, htlf, hlan, hfxm, hfxl, hef, hle1, hle2⟩ := S
  dsimp only at hce hoff hcu hcx hrs hct hlv hll htc htw n6 htlf hlan hfxm hfxl hef hle1 hle2
  obtain ⟨n1, n2, n3, n4, n5, n6, n7, n8, n9, n10, n11, n12, n13, n14, n15⟩ := n6
  have hlen : (rowOf [] cur).length ≤ 100 := by omega
  have hwl : ((wvs) : List Value).length ≤ 100 := Nat.le_trans hle2 (by omega)
  have hcl : cur.length ≤ 100 := Nat.le_trans (row_ge [] cur) hlen
  have hxl : (ctxOf []).length ≤ 100 := by rw [ctx_len]; exact Nat.le_trans (ls_le [] cur) hlen
  obtain ⟨x1, x2, x3, x4, x5, x6, x7, x8, x9, xA⟩ := id l1
  obtain ⟨y0, y1, y2, y3, y4, y5, y6, y7, y8, y9, yA⟩ := id l2
  have hbg : ((begJ ([] : List Lev) : Nat) : Int) - 1 < 0 := by decide
  refine deedEndA4 (j := begJ []) (tl := tl ++ ow) B X T F N l1 l2 hce hlen hwl hcl hr hr2 hct.nil_eq hbg hk.repr ?_
  intro h' tk m' F2 mr2 mw2 mk2 N2
  refine h _ _ _ ⟨RW, KD, WT, P, D, CX, CU, RS, [], cur, wvs, nR, nK, nW, nX, nC, nS, d, ta, td0, tp, tl⟩ ⟨F2, ?zN, mr2, mw2, mk2, hce, ?zoff, ?zcu, ?zcx, ?zrs, ?zct, ?zlv, ?zll, ?ztc, ?ztw, ?zsix, ?ztlf, ?zlan, ?zfxm, ?zfxl, ?zef, ?zle1, ?zle2⟩
  (case zN => (refine news_sub N2 ?_; simp only [Sd.led, List.cons_append]; (repeat' (first | exact fun q hq => hq | (refine sub_cons (by k_mem) ?_) | (refine sub_tail ?_)))))
  (case zoff => ((try simp only [List.map_cons]); (repeat' (refine off_cons ?_ ?_)); all_goals (first | exact off_of hoff (by k_mem) | exact (fun q hq => Nat.ne_of_lt (allNew_of xA q (List.mem_append.mpr (.inr hq)))) | exact (fun q hq => Nat.ne_of_lt (allNew_of yA q (List.mem_append.mpr (.inr hq)))) | (intro q hq; first | exact hfalse q (List.mem_append.mpr (.inr hq))) | exact off_mono hoff (fun b hb => (by (repeat' (first | exact hb | refine List.Mem.tail _ ?_))))))) 
  (case zcu => first | exact hcu | rfl)
  (case zcx => first | exact hcx | rfl)
  (case zrs => first | exact hrs | rfl)
  (case zct => exact hct)
  (case zlv => exact hlv.mono fun q hq => hq)
  (case zll => exact fun q hq => (hll q hq))
  (case ztc => exact fun v hv => (htc v hv).mono fun q hq => hq)
  (case ztw => exact fun v hv => (htw v hv).mono fun q hq => hq)
  (case zsix => (constructor <;> first | assumption | (apply Ne.symm; assumption)))
  (case ztlf => (intro q hq; (try simp only [List.mem_cons] at hq); rcases hq with hq <;> (dsimp only; first | (obtain ⟨z1, z2, z3, z4, z5, z6⟩ := htlf q hq; refine ⟨?_, ?_, ?_, ?_, ?_, ?_⟩ <;> first | assumption | exact hfalse q (List.mem_append.mpr (.inl hq))) | (refine ⟨?_, ?_, ?_, ?_, ?_, ?_⟩ <;> first | assumption | exact Nat.ne_of_gt (by assumption) | exact ne_obj N2 (by k_mem) (by k_mem) tup_list | exact ne_obj N2 (by k_mem) (by k_mem) tup_dict))))
  (case zlan => exact hlan)
  (case zfxm => exact fun q hq => (hfxm q hq))
  (case zfxl => exact hfxl)
  (case zef => exact hef.imp id (fun ⟨ha, hb, hc⟩ => ⟨⟨ha.a1, ha.a2, ha.a3, ha.a4, ha.a5, ha.a6, ha.a7, ha.a8, ha.a9, ha.b1, ha.b2, ha.b3, ha.b4, ha.b5, ha.b6, ha.b7, ha.b8, ha.b9⟩, fun q hq => (hb q hq), hc⟩))
  (case zle1 => (dsimp only; omega))
  (case zle2 => (dsimp only; omega))
theorem stepEndA5 {fx fe ow : List (Addr × Obj)} {d₀ : PD} {i : Nat} {k : Str} {tk1 : Tok} (B : Below callerA h₀ [] h₀) (X : (K w.params).In h₀) (T : Top p loose mean mg mb h₀) (S : Snd L oCE fx fe d₀ ⟨RW, KD, WT, P, D, CX, CU, RS, [], cur, wvs, nR, nK, nW, nX, nC, nS, d, ta, td0, tp, tl⟩ ow i) (hi : i < 24) (F : Fr h₀ L s.heap (fun y => if y = Str.ofString "first" then some (Value.ref T1) else if y = Str.ofString "second" then some (Value.ref T2) else if y = Str.ofString "kind" then some (Value.str k tk1) else if y = Str.ofString "begin" then some (Value.int ((begJ ([] : List Lev) : Int) - 1) tb) else if y = Str.ofString "deed" then some (Value.int 5 td) else if y = Str.ofString "rest" then some (Value.int r tr) else if y = Str.ofString "rest" then bx else if y = Str.ofString "number" then nx else if y = Str.ofString "row" then some (Value.ref RW) else if y = Str.ofString "waiting" then some (Value.ref WT) else if y = Str.ofString "kinds" then some (Value.ref KD) else u y))
    (N : News h₀ L s.heap ((T2, ({ cls := .type "tuple", data := .seq #[.int (r.fmod 50 + 1) b1, .int (r + 1) b2] 0 } : Obj)) :: (T1, ({ cls := .type "tuple", data := .seq #[.int (r.fmod 50) a1, .int r tr] 0 } : Obj)) :: (RW, listOf (rowOf [] cur).toArray nR) :: (KD, listOf #[.str (Str.ofString "a") ta, .str (Str.ofString "d") td0, .str (Str.ofString "p") tp] nK) :: (WT, listOf wvs.toArray nW) :: (P, instObj 1367 D) :: (D, dictOf (d.es w) 13) :: (CX, listOf (ctxOf []).toArray nX) :: (CU, listOf cur.toArray nC) :: (RS, listOf wvs.toArray nS) :: (L + 1, oCE) :: (tl ++ ow))) (l1 : (@LT.lt Nat _ (RW) T1 ∧ @LT.lt Nat _ (KD) T1 ∧ @LT.lt Nat _ (WT) T1 ∧ @LT.lt Nat _ (P) T1 ∧ @LT.lt Nat _ (D) T1 ∧ @LT.lt Nat _ (CX) T1 ∧ @LT.lt Nat _ (CU) T1 ∧ @LT.lt Nat _ (RS) T1 ∧ @LT.lt Nat _ (L + 1) T1 ∧ AllLt T1 (tl ++ ow))) (l2 : @LT.lt Nat _ T1 T2 ∧ @LT.lt Nat _ (RW) T2 ∧ @LT.lt Nat _ (KD) T2 ∧ @LT.lt Nat _ (WT) T2 ∧ @LT.lt Nat _ (P) T2 ∧ @LT.lt Nat _ (D) T2 ∧ @LT.lt Nat _ (CX) T2 ∧ @LT.lt Nat _ (CU) T2 ∧ @LT.lt Nat _ (RS) T2 ∧ @LT.lt Nat _ (L + 1) T2 ∧ AllLt T2 (tl ++ ow))
    (hr : 0 ≤ r) (hr2 : r < 10000) (hk : Kd k)
    (h : ∀ h' tk m' x', Good w L oCE fx fe d₀ x' h₀ h' m' ow (i + 1) → Q .next { s with heap := h', toks := tk }) :
    wpAny (model PySem.Challenge.rw_ae5031_04.row.prog w) (callerA.deeper (envOfC (Str.ofString "law") lawScope L fa cd)) (exec chain (envOfC (Str.ofString "law") lawScope L fa cd)) (fun f s' => match f with | .next => wpAny (model PySem.Challenge.rw_ae5031_04.row.prog w) (callerA.deeper (envOfC (Str.ofString "law") lawScope L fa cd)) (execs [] (envOfC (Str.ofString "law") lawScope L fa cd)) Q E s' | f => Q f s') E s := by
  obtain ⟨hce, hoff, hcu, hcx, hrs, hct, hlv, hll, htc, htw, n6, htlf, hlan, hfxm, hfxl, hef, hle1, hle2⟩ := S
  dsimp only at hce hoff hcu hcx hrs hct hlv hll htc htw n6 htlf hlan hfxm hfxl hef hle1 hle2
  obtain ⟨n1, n2, n3, n4, n5, n6, n7, n8, n9, n10, n11, n12, n13, n14, n15⟩ := n6
  have hlen : (rowOf [] cur).length ≤ 100 := by omega
  have hwl : ((wvs) : List Value).length ≤ 100 := Nat.le_trans hle2 (by omega)
  have hcl : cur.length ≤ 100 := Nat.le_trans (row_ge [] cur) hlen
  have hxl : (ctxOf []).length ≤ 100 := by rw [ctx_len]; exact Nat.le_trans (ls_le [] cur) hlen
  obtain ⟨x1, x2, x3, x4, x5, x6, x7, x8, x9, xA⟩ := id l1
  obtain ⟨y0, y1, y2, y3, y4, y5, y6, y7, y8, y9, yA⟩ := id l2
  have hbg : ((begJ ([] : List Lev) : Nat) : Int) - 1 < 0 := by decide
  refine deedEndA5 (j := begJ []) (tl := tl ++ ow) B X T F N l1 l2 hce hlen hwl hcl hr hr2 hct.nil_eq hbg hk.repr ?_
  intro h' tk m' F2 mr2 mw2 mk2 N2
  refine h _ _ _ ⟨RW, KD, WT, P, D, CX, CU, RS, [], cur, wvs, nR, nK, nW, nX, nC, nS, d, ta, td0, tp, tl⟩ ⟨F2, ?zN, mr2, mw2, mk2, hce, ?zoff, ?zcu, ?zcx, ?zrs, ?zct, ?zlv, ?zll, ?ztc, ?ztw, ?zsix, ?ztlf, ?zlan, ?zfxm, ?zfxl, ?zef, ?zle1, ?zle2⟩
  (case zN => (refine news_sub N2 ?_; simp only [Sd.led, List.cons_append]; (repeat' (first | exact fun q hq => hq | (refine sub_cons (by k_mem) ?_) | (refine sub_tail ?_)))))
  (case zoff => ((try simp only [List.map_cons]); (repeat' (refine off_cons ?_ ?_)); all_goals (first | exact off_of hoff (by k_mem) | exact (fun q hq => Nat.ne_of_lt (allNew_of xA q (List.mem_append.mpr (.inr hq)))) | exact (fun q hq => Nat.ne_of_lt (allNew_of yA q (List.mem_append.mpr (.inr hq)))) | (intro q hq; first | exact hfalse q (List.mem_append.mpr (.inr hq))) | exact off_mono hoff (fun b hb => (by (repeat' (first | exact hb | refine List.Mem.tail _ ?_))))))) 
  (case zcu => first | exact hcu | rfl)
  (case zcx => first | exact hcx | rfl)
  (case zrs => first | exact hrs | rfl)
  (case zct => exact hct)
  (case zlv => exact hlv.mono fun q hq => hq)
  (case zll => exact fun q hq => (hll q hq))
  (case ztc => exact fun v hv => (htc v hv).mono fun q hq => hq)
  (case ztw => exact fun v hv => (htw v hv).mono fun q hq => hq)
  (case zsix => (constructor <;> first | assumption | (apply Ne.symm; assumption)))
  (case ztlf => (intro q hq; (try simp only [List.mem_cons] at hq); rcases hq with hq <;> (dsimp only; first | (obtain ⟨z1, z2, z3, z4, z5, z6⟩ := htlf q hq; refine ⟨?_, ?_, ?_, ?_, ?_, ?_⟩ <;> first | assumption | exact hfalse q (List.mem_append.mpr (.inl hq))) | (refine ⟨?_, ?_, ?_, ?_, ?_, ?_⟩ <;> first | assumption | exact Nat.ne_of_gt (by assumption) | exact ne_obj N2 (by k_mem) (by k_mem) tup_list | exact ne_obj N2 (by k_mem) (by k_mem) tup_dict))))
  (case zlan => exact hlan)
  (case zfxm => exact fun q hq => (hfxm q hq))
  (case zfxl => exact hfxl)
  (case zef => exact hef.imp id (fun ⟨ha, hb, hc⟩ => ⟨⟨ha.a1, ha.a2, ha.a3, ha.a4, ha.a5, ha.a6, ha.a7, ha.a8, ha.a9, ha.b1, ha.b2, ha.b3, ha.b4, ha.b5, ha.b6, ha.b7, ha.b8, ha.b9⟩, fun q hq => (hb q hq), hc⟩))
  (case zle1 => (dsimp only; omega))
  (case zle2 => (dsimp only; omega))
theorem stepEndC4 {fx fe ow : List (Addr × Obj)} {d₀ : PD} {i : Nat} {lk : Str} {tk1 : Tok} {LA MA CA : Addr} {items : List Value} {nL : Nat} {pos : Int} (B : Below callerA h₀ [] h₀) (X : (K w.params).In h₀) (T : Top p loose mean mg mb h₀) (S : Snd L oCE fx fe d₀ ⟨RW, KD, WT, P, D, CX, CU, RS, (⟨LA, MA, CA, items, nL, pos, lk⟩ :: ls), cur, wvs, nR, nK, nW, nX, nC, nS, d, ta, td0, tp, tl⟩ ow i) (hi : i < 24) (F : Fr h₀ L s.heap (fun y => if y = Str.ofString "first" then some (Value.ref T1) else if y = Str.ofString "second" then some (Value.ref T2) else if y = Str.ofString "kind" then some (Value.str lk tk1) else if y = Str.ofString "begin" then some (Value.int ((begJ (⟨LA, MA, CA, items, nL, pos, lk⟩ :: ls) : Int) - 1) tb) else if y = Str.ofString "deed" then some (Value.int 4 td) else if y = Str.ofString "rest" then some (Value.int r tr) else if y = Str.ofString "rest" then bx else if y = Str.ofString "number" then nx else if y = Str.ofString "row" then some (Value.ref RW) else if y = Str.ofString "waiting" then some (Value.ref WT) else if y = Str.ofString "kinds" then some (Value.ref KD) else u y))
    (N : News h₀ L s.heap ((T2, ({ cls := .type "tuple", data := .seq #[.int (r.fmod 50 + 1) b1, .int (r + 1) b2] 0 } : Obj)) :: (T1, ({ cls := .type "tuple", data := .seq #[.int (r.fmod 50) a1, .int r tr] 0 } : Obj)) :: (RW, listOf (rowOf (⟨LA, MA, CA, items, nL, pos, lk⟩ :: ls) cur).toArray nR) :: (KD, listOf #[.str (Str.ofString "a") ta, .str (Str.ofString "d") td0, .str (Str.ofString "p") tp] nK) :: (WT, listOf wvs.toArray nW) :: (P, instObj 1367 D) :: (D, dictOf (d.es w) 13) :: (CX, listOf (ctxOf (⟨LA, MA, CA, items, nL, pos, lk⟩ :: ls)).toArray nX) :: (CU, listOf cur.toArray nC) :: (RS, listOf wvs.toArray nS) :: (L + 1, oCE) :: (tl ++ ow))) (l1 : (@LT.lt Nat _ (RW) T1 ∧ @LT.lt Nat _ (KD) T1 ∧ @LT.lt Nat _ (WT) T1 ∧ @LT.lt Nat _ (P) T1 ∧ @LT.lt Nat _ (D) T1 ∧ @LT.lt Nat _ (CX) T1 ∧ @LT.lt Nat _ (CU) T1 ∧ @LT.lt Nat _ (RS) T1 ∧ @LT.lt Nat _ (L + 1) T1 ∧ AllLt T1 (tl ++ ow))) (l2 : @LT.lt Nat _ T1 T2 ∧ @LT.lt Nat _ (RW) T2 ∧ @LT.lt Nat _ (KD) T2 ∧ @LT.lt Nat _ (WT) T2 ∧ @LT.lt Nat _ (P) T2 ∧ @LT.lt Nat _ (D) T2 ∧ @LT.lt Nat _ (CX) T2 ∧ @LT.lt Nat _ (CU) T2 ∧ @LT.lt Nat _ (RS) T2 ∧ @LT.lt Nat _ (L + 1) T2 ∧ AllLt T2 (tl ++ ow))
    (hr : 0 ≤ r) (hr2 : r < 10000) (KDLA : @Ne Nat LA KD)
    (h : ∀ h' tk m' x', Good w L oCE fx fe d₀ x' h₀ h' m' ow (i + 1) → Q .next { s with heap := h', toks := tk }) :
    wpAny (model PySem.Challenge.rw_ae5031_04.row.prog w) (callerA.deeper (envOfC (Str.ofString "law") lawScope L fa cd)) (exec chain (envOfC (Str.ofString "law") lawScope L fa cd)) (fun f s' => match f with | .next => wpAny (model PySem.Challenge.rw_ae5031_04.row.prog w) (callerA.deeper (envOfC (Str.ofString "law") lawScope L fa cd)) (execs [] (envOfC (Str.ofString "law") lawScope L fa cd)) Q E s' | f => Q f s') E s := by
  obtain ⟨hce, hoff, hcu, hcx, hrs, hct, hlv, hll, htc, htw, n6, htlf, hlan, hfxm, hfxl, hef, hle1, hle2⟩ := S
  dsimp only at hce hoff hcu hcx hrs hct hlv hll htc htw n6 htlf hlan hfxm hfxl hef hle1 hle2
  obtain ⟨n1, n2, n3, n4, n5, n6, n7, n8, n9, n10, n11, n12, n13, n14, n15⟩ := n6
  have hlen : (rowOf (⟨LA, MA, CA, items, nL, pos, lk⟩ :: ls) cur).length ≤ 100 := by omega
  have hwl : ((wvs) : List Value).length ≤ 100 := Nat.le_trans hle2 (by omega)
  have hcl : cur.length ≤ 100 := Nat.le_trans (row_ge (⟨LA, MA, CA, items, nL, pos, lk⟩ :: ls) cur) hlen
  have hxl : (ctxOf (⟨LA, MA, CA, items, nL, pos, lk⟩ :: ls)).length ≤ 100 := by rw [ctx_len]; exact Nat.le_trans (ls_le (⟨LA, MA, CA, items, nL, pos, lk⟩ :: ls) cur) hlen
  obtain ⟨x1, x2, x3, x4, x5, x6, x7, x8, x9, xA⟩ := id l1
  obtain ⟨y0, y1, y2, y3, y4, y5, y6, y7, y8, y9, yA⟩ := id l2
  have oD : Off D [RW, KD, WT, P, CX, CU, RS, L + 1] := (off_con (ne_obj N (by k_mem) (by k_mem) dict_list) (off_con (ne_obj N (by k_mem) (by k_mem) dict_list) (off_con (ne_obj N (by k_mem) (by k_mem) dict_list) (off_con (ne_obj N (by k_mem) (by k_mem) inst_dict.symm) (off_con (ne_obj N (by k_mem) (by k_mem) dict_list) (off_con (ne_obj N (by k_mem) (by k_mem) dict_list) (off_con (ne_obj N (by k_mem) (by k_mem) dict_list) (off_con (ne_obj N (by k_mem) (by k_mem) (cell_dict hce).symm) (off_nil D)))))))))
  have tD : ∀ q ∈ tl ++ ow, q.1 ≠ D := fun q hq => (List.mem_append.mp hq).elim (fun h => (htlf q h).a3) (off_of hoff (by k_mem) q)
  have oCX : Off CX [RW, KD, WT, P, D, CU, RS, L + 1] := (off_con n3.symm (off_con n7.symm (off_con n10.symm (off_con (ne_obj N (by k_mem) (by k_mem) inst_list.symm) (off_con (ne_obj N (by k_mem) (by k_mem) dict_list.symm) (off_con n13 (off_con n14 (off_con (ne_obj N (by k_mem) (by k_mem) (cell_list hce).symm) (off_nil CX)))))))))
  have tCX : ∀ q ∈ tl ++ ow, q.1 ≠ CX := fun q hq => (List.mem_append.mp hq).elim (fun h => (htlf q h).a4) (off_of hoff (by k_mem) q)
  obtain ⟨ltk2, hctk⟩ := hct.cons_eq
  cases hlv with
  | @cons _ _ tm ltk tq ct km hM hC hcto hTo hko hro =>
  dsimp only at hM hC hctk hko hcto hTo
  have hLm : (LA, listOf items.toArray nL) ∈ tl := hll _ (.head _)
  have hin : ∀ q ∈ tl, q ∈ ((T2, ({ cls := .type "tuple", data := .seq #[.int (r.fmod 50 + 1) b1, .int (r + 1) b2] 0 } : Obj)) :: (T1, ({ cls := .type "tuple", data := .seq #[.int (r.fmod 50) a1, .int r tr] 0 } : Obj)) :: (RW, listOf (rowOf (⟨LA, MA, CA, items, nL, pos, lk⟩ :: ls) cur).toArray nR) :: (KD, listOf #[.str (Str.ofString "a") ta, .str (Str.ofString "d") td0, .str (Str.ofString "p") tp] nK) :: (WT, listOf wvs.toArray nW) :: (P, instObj 1367 D) :: (D, dictOf (d.es w) 13) :: (CX, listOf (ctxOf (⟨LA, MA, CA, items, nL, pos, lk⟩ :: ls)).toArray nX) :: (CU, listOf cur.toArray nC) :: (RS, listOf wvs.toArray nS) :: (L + 1, oCE) :: (tl ++ ow)) := fun q hq => by (repeat' (first | exact List.mem_append.mpr (.inl hq) | refine List.Mem.tail _ ?_))
  have hkeep : ∀ q ∈ tl, q.2 ≠ listOf items.toArray nL → q ∈ tl.filter (fun q => decide (q.1 ≠ LA)) := fun q hq hn => (filter_keep N (hin _ hLm) hin hq).elim (fun e => absurd (congrArg Prod.snd e) hn) id
  have hthing : ∀ v, Thing tl v → Thing (tl.filter (fun q => decide (q.1 ≠ LA))) v := fun v ⟨t, a, ta, x, k, e, hm⟩ => ⟨t, a, ta, x, k, e, hkeep _ hm tup_list⟩
  have hfil : ∀ q ∈ tl.filter (fun q => decide (q.1 ≠ LA)), q ∈ tl ∧ q.1 ≠ LA := fun q hq => ⟨(List.mem_filter.mp hq).1, of_decide_eq_true (List.mem_filter.mp hq).2⟩
  have hrest : ∀ l ∈ ls, l.LA ≠ LA := fun l hl e => (List.nodup_cons.mp hlan).1 (List.mem_map.mpr ⟨l, hl, e⟩)
  have hlv2 : LevsOk (tl.filter (fun q => decide (q.1 ≠ LA))) ls := levs_filter hkeep hthing (fun _ _ => tup_list) hro
  obtain ⟨ss, hsec⟩ := secs_of (nx := tl.filter (fun q => decide (q.1 ≠ LA)) ++ ow) fun v hv => (hthing v (htc v hv)).mono fun q hq => List.mem_append.mpr (.inl hq)
  have inF : ∀ q ∈ tl.filter (fun q => decide (q.1 ≠ LA)) ++ ow, q ∈ tl ++ ow := fun q hq => (List.mem_append.mp hq).elim (fun h => List.mem_append.mpr (.inl (hfil q h).1)) fun h => List.mem_append.mpr (.inr h)
  have N0 : News h₀ L s.heap ((LA, listOf items.toArray nL) :: (CA, ({ cls := .type "tuple", data := .seq #[Value.int pos tq, ct, Value.ref LA] 0 } : Obj)) :: (MA, ({ cls := .type "tuple", data := .seq #[Value.none, .int pos tm, .str lk ltk] km } : Obj)) :: (T2, ({ cls := .type "tuple", data := .seq #[.int (r.fmod 50 + 1) b1, .int (r + 1) b2] 0 } : Obj)) :: (T1, ({ cls := .type "tuple", data := .seq #[.int (r.fmod 50) a1, .int r tr] 0 } : Obj)) :: (RW, listOf (rowOf (⟨LA, MA, CA, items, nL, pos, lk⟩ :: ls) cur).toArray nR) :: (KD, listOf #[.str (Str.ofString "a") ta, .str (Str.ofString "d") td0, .str (Str.ofString "p") tp] nK) :: (WT, listOf wvs.toArray nW) :: (P, instObj 1367 D) :: (D, dictOf (d.es w) 13) :: (CX, listOf (ctxOf (⟨LA, MA, CA, items, nL, pos, lk⟩ :: ls)).toArray nX) :: (CU, listOf cur.toArray nC) :: (RS, listOf wvs.toArray nS) :: (L + 1, oCE) :: (tl.filter (fun q => decide (q.1 ≠ LA)) ++ ow)) := fun q hq => by
    rcases List.mem_cons.mp hq with rfl | hq
    · exact N _ (hin _ hLm)
    rcases List.mem_cons.mp hq with rfl | hq
    · exact N _ (hin _ hC)
    rcases List.mem_cons.mp hq with rfl | hq
    · exact N _ (hin _ hM)
    (iterate 11 (rcases List.mem_cons.mp hq with rfl | hq; exact N _ (by k_mem)))
    exact N _ (by (repeat' (first | exact inF q hq | refine List.Mem.tail _ ?_)))
  have hbg : 0 ≤ ((begJ (⟨LA, MA, CA, items, nL, pos, lk⟩ :: ls) : Nat) : Int) - 1 := by simp only [begJ]; omega
  have hxM : (rowOf (⟨LA, MA, CA, items, nL, pos, lk⟩ :: ls) cur)[(((begJ (⟨LA, MA, CA, items, nL, pos, lk⟩ :: ls) : Nat) : Int) - 1).toNat]? = some (Value.ref MA) := by
    rw [show (((begJ (⟨LA, MA, CA, items, nL, pos, lk⟩ :: ls) : Nat) : Int) - 1).toNat = (rowOf ls items).length by simp only [begJ]; omega]
    exact row_at _ _ _
  have hd1 : (rowOf (⟨LA, MA, CA, items, nL, pos, lk⟩ :: ls) cur).drop (((begJ (⟨LA, MA, CA, items, nL, pos, lk⟩ :: ls) : Nat) : Int) - 1 + 1).toNat = cur := by rw [show (((begJ (⟨LA, MA, CA, items, nL, pos, lk⟩ :: ls) : Nat) : Int) - 1 + 1).toNat = begJ (⟨LA, MA, CA, items, nL, pos, lk⟩ :: ls) by simp only [begJ]; omega]; exact row_drop _ cur
  have hd2 : (rowOf (⟨LA, MA, CA, items, nL, pos, lk⟩ :: ls) cur).take (((begJ (⟨LA, MA, CA, items, nL, pos, lk⟩ :: ls) : Nat) : Int) - 1).toNat = rowOf ls items := by
    rw [show (((begJ (⟨LA, MA, CA, items, nL, pos, lk⟩ :: ls) : Nat) : Int) - 1).toNat = (rowOf ls items).length by simp only [begJ]; omega]
    exact row_take_out ⟨LA, MA, CA, items, nL, pos, lk⟩ ls cur
  have hrl : (rowOf ls items).length ≤ 100 := by have := hlen; simp only [rowOf, List.length_append] at this; omega
  have hil : items.length ≤ 100 := Nat.le_trans (row_ge ls items) hrl
  have hsl : (ctxOf ls).length ≤ 100 := by rw [ctx_len]; exact Nat.le_trans (ls_le ls items) hrl
  have uL := htlf _ hLm
  have uM := htlf _ hM
  have uC := htlf _ hC
  have lt1 : ∀ q ∈ tl, @LT.lt Nat _ q.1 T1 := fun q hq => allNew_of xA _ (List.mem_append.mpr (.inl hq))
  have lt2 : ∀ q ∈ tl, @LT.lt Nat _ q.1 T2 := fun q hq => allNew_of yA _ (List.mem_append.mpr (.inl hq))
  have hLo : ∀ q ∈ ow, q.1 ≠ LA := off_of hoff (by (repeat' (first | exact List.mem_map.mpr ⟨_, hLm, rfl⟩ | refine List.Mem.tail _ ?_)))
  have oLA : Off LA [RW, KD, WT, P, D, CX, CU, RS, L + 1, MA, CA] := off_con uL.a1 (off_con KDLA (off_con uL.a2 (off_con (ne_obj N0 (by k_mem) (by k_mem) inst_list).symm (off_con uL.a3 (off_con uL.a4 (off_con uL.a5 (off_con uL.a6 (off_con (ne_obj N0 (by k_mem) (by k_mem) (cell_list hce)).symm (off_con (ne_obj N0 (by k_mem) (by k_mem) tup_list).symm (off_con (ne_obj N0 (by k_mem) (by k_mem) tup_list).symm (off_nil _)))))))))))
  have oMA : Off MA [D, CX] := off_con uM.a3 (off_con uM.a4 (off_nil _))
  have oCA : Off CA [D, CX] := off_con uC.a3 (off_con uC.a4 (off_nil _))
  have tLA : ∀ q ∈ tl.filter (fun q => decide (q.1 ≠ LA)) ++ ow, q.1 ≠ LA := fun q hq => (List.mem_append.mp hq).elim (fun h => (hfil q h).2) (hLo q)
  have xB : AllLt T1 (tl.filter (fun q => decide (q.1 ≠ LA)) ++ ow) := allLt_sub fun q hq => allNew_of xA q (inF q hq)
  have yB : AllLt T2 (tl.filter (fun q => decide (q.1 ≠ LA)) ++ ow) := allLt_sub fun q hq => allNew_of yA q (inF q hq)
  refine deedEndC4 (j := begJ (⟨LA, MA, CA, items, nL, pos, lk⟩ :: ls)) (ls := (⟨LA, MA, CA, items, nL, pos, lk⟩ :: ls)) (k := lk) (cs := ctxOf ls) (tl := tl.filter (fun q => decide (q.1 ≠ LA)) ++ ow) B X T F N0 ⟨x1, x2, x3, x4, x5, x6, x7, x8, x9, xB⟩ ⟨y0, y1, y2, y3, y4, y5, y6, y7, y8, y9, yB⟩ hce hlen hwl hcl hr hr2 hctk hcx hcu hcto.kind hbg hxM hd1 hd2 hrl hil hsl hsec (lt1 _ hLm) (lt2 _ hLm) (lt1 _ hC) (lt2 _ hC) (lt1 _ hM) (lt2 _ hM) oLA tLA oMA oCA oD (fun q hq => tD q (inF q hq)) oCX (fun q hq => tCX q (inF q hq)) ?_
  intro h' tk m' RW' DUE DL F2 mr2 mw2 mk2 N2 f0 t0 t1
  rw [row_push] at N2
  obtain ⟨f1, f2, f3, f4, f5⟩ := f0
  have v1 : @Ne Nat KD LA := KDLA.symm
  have v2 : @Ne Nat WT LA := uL.a2.symm
  have v3 : @Ne Nat CX LA := uL.a4.symm
  have v4 : @Ne Nat RS LA := uL.a6.symm
  have hlk := (List.nodup_cons.mp hlan).2
  have hfxm' : ∀ q ∈ fx, q ∈ tl.filter (fun q => decide (q.1 ≠ LA)) := fun q hq => List.mem_filter.mpr ⟨hfxm q hq, decide_eq_true (fun e => hfxl _ (.head _) q hq e.symm)⟩
  refine h _ _ _ ⟨RW', KD, WT, P, D, CX, LA, RS, ls, items ++ [Value.ref DUE], wvs, 0, nK, nW, nX + 1, nL + 1, nS, { d with curtype := ct, curstack := .ref LA }, ta, td0, tp, (DUE, ({ cls := .type "tuple", data := .seq #[.int pos tm, Value.ref DL] 0 } : Obj)) :: tl.filter (fun q => decide (q.1 ≠ LA))⟩ ⟨F2, ?zN, mr2, mw2, mk2, hce, ?zoff, ?zcu, ?zcx, ?zrs, ?zct, ?zlv, ?zll, ?ztc, ?ztw, ?zsix, ?ztlf, ?zlan, ?zfxm, ?zfxl, ?zef, ?zle1, ?zle2⟩
  (case zN => (refine news_sub N2 ?_; simp only [Sd.led, List.cons_append]; (repeat' (first | exact fun q hq => hq | (refine sub_cons (by k_mem) ?_) | (refine sub_tail ?_)))))
  (case zoff => ((try simp only [List.map_cons]); (repeat' (refine off_cons ?_ ?_)); all_goals (first | exact off_of hoff (by k_mem) | exact hLo | exact hLo | exact (fun q hq => Nat.ne_of_lt (allNew_of xA q (List.mem_append.mpr (.inr hq)))) | exact (fun q hq => Nat.ne_of_lt (allNew_of yA q (List.mem_append.mpr (.inr hq)))) | (intro q hq; first | exact t0 q (List.mem_append.mpr (.inr hq)) | exact t1 q (List.mem_append.mpr (.inr hq))) | exact off_mono hoff (fun b hb => (by obtain ⟨q, hq, rfl⟩ := List.mem_map.mp hb; (repeat' (first | exact List.mem_map.mpr ⟨q, (hfil q hq).1, rfl⟩ | refine List.Mem.tail _ ?_))))))) 
  (case zcu => first | exact hcu | rfl)
  (case zcx => first | exact hcx | rfl)
  (case zrs => first | exact hrs | rfl)
  (case zct => exact hcto)
  (case zlv => exact hlv2.mono fun q hq => .tail _ hq)
  (case zll => (intro q hq; refine .tail _ (List.mem_filter.mpr ⟨hll q (.tail _ hq), decide_eq_true ?_⟩); obtain ⟨l, hl, rfl⟩ := List.mem_map.mp hq; exact hrest l hl))
  (case ztc => exact fun v hv => (List.mem_append.mp hv).elim (fun hv => (hthing v (hTo v hv)).mono fun q hq => .tail _ hq) (fun hv => by rw [List.mem_singleton.mp hv]; exact ⟨_, _, _, _, _, rfl, .head _⟩))
  (case ztw => exact fun v hv => (hthing v (htw v hv)).mono fun q hq => .tail _ hq)
  (case zsix => (constructor <;> first | assumption | (apply Ne.symm; assumption)))
  (case ztlf => (intro q hq; (try simp only [List.mem_cons] at hq); rcases hq with rfl | hq <;> (dsimp only; first | (obtain ⟨hq, hqL⟩ := hfil q hq; obtain ⟨z1, z2, z3, z4, z5, z6⟩ := htlf q hq; refine ⟨?_, ?_, ?_, ?_, ?_, ?_⟩ <;> first | assumption | exact t0 q (List.mem_append.mpr (.inl (List.mem_filter.mpr ⟨hq, decide_eq_true hqL⟩))) | exact t1 q (List.mem_append.mpr (.inl (List.mem_filter.mpr ⟨hq, decide_eq_true hqL⟩)))) | (refine ⟨?_, ?_, ?_, ?_, ?_, ?_⟩ <;> first | assumption | exact Nat.ne_of_gt (by assumption) | exact ne_obj N2 (by k_mem) (by k_mem) tup_list | exact ne_obj N2 (by k_mem) (by k_mem) tup_dict))))
  (case zlan => exact hlk)
  (case zfxm => exact fun q hq => (.tail _ (hfxm' q hq)))
  (case zfxl => exact fun l hl => hfxl l (.tail _ hl))
  (case zef => exact hef.imp id (fun ⟨ha, hb, hc⟩ => ⟨⟨ha.a1, ha.a2, ha.a3, ha.a4, ha.a5, ha.a6, ha.a7, ha.a8, ha.a9, ha.b1, ha.b2, ha.b3, ha.b4, ha.b5, ha.b6, ha.b7, ha.b8, ha.b9⟩, fun q hq => .tail _ (List.mem_filter.mpr ⟨hb q hq, decide_eq_true (fun e => hc _ (.head _) q hq e.symm)⟩), fun l hl => hc l (.tail _ hl)⟩))
  (case zle1 => (have e1 := row_len ls items; have e2 := row_len ls (items ++ [Value.ref DUE]); have e3 := hle1; simp only [rowOf, List.length_append, List.length_cons, List.length_nil] at e2 e3; dsimp only; omega))
  (case zle2 => (dsimp only; omega))
theorem stepEndC5 {fx fe ow : List (Addr × Obj)} {d₀ : PD} {i : Nat} {lk : Str} {tk1 : Tok} {LA MA CA : Addr} {items : List Value} {nL : Nat} {pos : Int} (B : Below callerA h₀ [] h₀) (X : (K w.params).In h₀) (T : Top p loose mean mg mb h₀) (S : Snd L oCE fx fe d₀ ⟨RW, KD, WT, P, D, CX, CU, RS, (⟨LA, MA, CA, items, nL, pos, lk⟩ :: ls), cur, wvs, nR, nK, nW, nX, nC, nS, d, ta, td0, tp, tl⟩ ow i) (hi : i < 24) (F : Fr h₀ L s.heap (fun y => if y = Str.ofString "first" then some (Value.ref T1) else if y = Str.ofString "second" then some (Value.ref T2) else if y = Str.ofString "kind" then some kd else if y = Str.ofString "begin" then some (Value.int ((begJ (⟨LA, MA, CA, items, nL, pos, lk⟩ :: ls) : Int) - 1) tb) else if y = Str.ofString "deed" then some (Value.int 5 td) else if y = Str.ofString "rest" then some (Value.int r tr) else if y = Str.ofString "rest" then bx else if y = Str.ofString "number" then nx else if y = Str.ofString "row" then some (Value.ref RW) else if y = Str.ofString "waiting" then some (Value.ref WT) else if y = Str.ofString "kinds" then some (Value.ref KD) else u y))
    (N : News h₀ L s.heap ((T2, ({ cls := .type "tuple", data := .seq #[.int (r.fmod 50 + 1) b1, .int (r + 1) b2] 0 } : Obj)) :: (T1, ({ cls := .type "tuple", data := .seq #[.int (r.fmod 50) a1, .int r tr] 0 } : Obj)) :: (RW, listOf (rowOf (⟨LA, MA, CA, items, nL, pos, lk⟩ :: ls) cur).toArray nR) :: (KD, listOf #[.str (Str.ofString "a") ta, .str (Str.ofString "d") td0, .str (Str.ofString "p") tp] nK) :: (WT, listOf wvs.toArray nW) :: (P, instObj 1367 D) :: (D, dictOf (d.es w) 13) :: (CX, listOf (ctxOf (⟨LA, MA, CA, items, nL, pos, lk⟩ :: ls)).toArray nX) :: (CU, listOf cur.toArray nC) :: (RS, listOf wvs.toArray nS) :: (L + 1, oCE) :: (tl ++ ow))) (l1 : (@LT.lt Nat _ (RW) T1 ∧ @LT.lt Nat _ (KD) T1 ∧ @LT.lt Nat _ (WT) T1 ∧ @LT.lt Nat _ (P) T1 ∧ @LT.lt Nat _ (D) T1 ∧ @LT.lt Nat _ (CX) T1 ∧ @LT.lt Nat _ (CU) T1 ∧ @LT.lt Nat _ (RS) T1 ∧ @LT.lt Nat _ (L + 1) T1 ∧ AllLt T1 (tl ++ ow))) (l2 : @LT.lt Nat _ T1 T2 ∧ @LT.lt Nat _ (RW) T2 ∧ @LT.lt Nat _ (KD) T2 ∧ @LT.lt Nat _ (WT) T2 ∧ @LT.lt Nat _ (P) T2 ∧ @LT.lt Nat _ (D) T2 ∧ @LT.lt Nat _ (CX) T2 ∧ @LT.lt Nat _ (CU) T2 ∧ @LT.lt Nat _ (RS) T2 ∧ @LT.lt Nat _ (L + 1) T2 ∧ AllLt T2 (tl ++ ow))
    (hr : 0 ≤ r) (hr2 : r < 10000) (KDLA : @Ne Nat LA KD)
    (h : ∀ h' tk m' x', Good w L oCE fx fe d₀ x' h₀ h' m' ow (i + 1) → Q .next { s with heap := h', toks := tk }) :
    wpAny (model PySem.Challenge.rw_ae5031_04.row.prog w) (callerA.deeper (envOfC (Str.ofString "law") lawScope L fa cd)) (exec chain (envOfC (Str.ofString "law") lawScope L fa cd)) (fun f s' => match f with | .next => wpAny (model PySem.Challenge.rw_ae5031_04.row.prog w) (callerA.deeper (envOfC (Str.ofString "law") lawScope L fa cd)) (execs [] (envOfC (Str.ofString "law") lawScope L fa cd)) Q E s' | f => Q f s') E s := by
  obtain ⟨hce, hoff, hcu, hcx, hrs, hct, hlv, hll, htc, htw, n6, htlf, hlan, hfxm, hfxl, hef, hle1, hle2⟩ := S
  dsimp only at hce hoff hcu hcx hrs hct hlv hll htc htw n6 htlf hlan hfxm hfxl hef hle1 hle2
  obtain ⟨n1, n2, n3, n4, n5, n6, n7, n8, n9, n10, n11, n12, n13, n14, n15⟩ := n6
  have hlen : (rowOf (⟨LA, MA, CA, items, nL, pos, lk⟩ :: ls) cur).length ≤ 100 := by omega
  have hwl : ((wvs) : List Value).length ≤ 100 := Nat.le_trans hle2 (by omega)
  have hcl : cur.length ≤ 100 := Nat.le_trans (row_ge (⟨LA, MA, CA, items, nL, pos, lk⟩ :: ls) cur) hlen
  have hxl : (ctxOf (⟨LA, MA, CA, items, nL, pos, lk⟩ :: ls)).length ≤ 100 := by rw [ctx_len]; exact Nat.le_trans (ls_le (⟨LA, MA, CA, items, nL, pos, lk⟩ :: ls) cur) hlen
  obtain ⟨x1, x2, x3, x4, x5, x6, x7, x8, x9, xA⟩ := id l1
  obtain ⟨y0, y1, y2, y3, y4, y5, y6, y7, y8, y9, yA⟩ := id l2
  have oD : Off D [RW, KD, WT, P, CX, CU, RS, L + 1] := (off_con (ne_obj N (by k_mem) (by k_mem) dict_list) (off_con (ne_obj N (by k_mem) (by k_mem) dict_list) (off_con (ne_obj N (by k_mem) (by k_mem) dict_list) (off_con (ne_obj N (by k_mem) (by k_mem) inst_dict.symm) (off_con (ne_obj N (by k_mem) (by k_mem) dict_list) (off_con (ne_obj N (by k_mem) (by k_mem) dict_list) (off_con (ne_obj N (by k_mem) (by k_mem) dict_list) (off_con (ne_obj N (by k_mem) (by k_mem) (cell_dict hce).symm) (off_nil D)))))))))
  have tD : ∀ q ∈ tl ++ ow, q.1 ≠ D := fun q hq => (List.mem_append.mp hq).elim (fun h => (htlf q h).a3) (off_of hoff (by k_mem) q)
  have oCX : Off CX [RW, KD, WT, P, D, CU, RS, L + 1] := (off_con n3.symm (off_con n7.symm (off_con n10.symm (off_con (ne_obj N (by k_mem) (by k_mem) inst_list.symm) (off_con (ne_obj N (by k_mem) (by k_mem) dict_list.symm) (off_con n13 (off_con n14 (off_con (ne_obj N (by k_mem) (by k_mem) (cell_list hce).symm) (off_nil CX)))))))))
  have tCX : ∀ q ∈ tl ++ ow, q.1 ≠ CX := fun q hq => (List.mem_append.mp hq).elim (fun h => (htlf q h).a4) (off_of hoff (by k_mem) q)
  obtain ⟨ltk2, hctk⟩ := hct.cons_eq
  cases hlv with
  | @cons _ _ tm ltk tq ct km hM hC hcto hTo hko hro =>
  dsimp only at hM hC hctk hko hcto hTo
  have hLm : (LA, listOf items.toArray nL) ∈ tl := hll _ (.head _)
  have hin : ∀ q ∈ tl, q ∈ ((T2, ({ cls := .type "tuple", data := .seq #[.int (r.fmod 50 + 1) b1, .int (r + 1) b2] 0 } : Obj)) :: (T1, ({ cls := .type "tuple", data := .seq #[.int (r.fmod 50) a1, .int r tr] 0 } : Obj)) :: (RW, listOf (rowOf (⟨LA, MA, CA, items, nL, pos, lk⟩ :: ls) cur).toArray nR) :: (KD, listOf #[.str (Str.ofString "a") ta, .str (Str.ofString "d") td0, .str (Str.ofString "p") tp] nK) :: (WT, listOf wvs.toArray nW) :: (P, instObj 1367 D) :: (D, dictOf (d.es w) 13) :: (CX, listOf (ctxOf (⟨LA, MA, CA, items, nL, pos, lk⟩ :: ls)).toArray nX) :: (CU, listOf cur.toArray nC) :: (RS, listOf wvs.toArray nS) :: (L + 1, oCE) :: (tl ++ ow)) := fun q hq => by (repeat' (first | exact List.mem_append.mpr (.inl hq) | refine List.Mem.tail _ ?_))
  have hkeep : ∀ q ∈ tl, q.2 ≠ listOf items.toArray nL → q ∈ tl.filter (fun q => decide (q.1 ≠ LA)) := fun q hq hn => (filter_keep N (hin _ hLm) hin hq).elim (fun e => absurd (congrArg Prod.snd e) hn) id
  have hthing : ∀ v, Thing tl v → Thing (tl.filter (fun q => decide (q.1 ≠ LA))) v := fun v ⟨t, a, ta, x, k, e, hm⟩ => ⟨t, a, ta, x, k, e, hkeep _ hm tup_list⟩
  have hfil : ∀ q ∈ tl.filter (fun q => decide (q.1 ≠ LA)), q ∈ tl ∧ q.1 ≠ LA := fun q hq => ⟨(List.mem_filter.mp hq).1, of_decide_eq_true (List.mem_filter.mp hq).2⟩
  have hrest : ∀ l ∈ ls, l.LA ≠ LA := fun l hl e => (List.nodup_cons.mp hlan).1 (List.mem_map.mpr ⟨l, hl, e⟩)
  have hlv2 : LevsOk (tl.filter (fun q => decide (q.1 ≠ LA))) ls := levs_filter hkeep hthing (fun _ _ => tup_list) hro
  obtain ⟨ss, hsec⟩ := secs_of (nx := tl.filter (fun q => decide (q.1 ≠ LA)) ++ ow) fun v hv => (hthing v (htc v hv)).mono fun q hq => List.mem_append.mpr (.inl hq)
  have inF : ∀ q ∈ tl.filter (fun q => decide (q.1 ≠ LA)) ++ ow, q ∈ tl ++ ow := fun q hq => (List.mem_append.mp hq).elim (fun h => List.mem_append.mpr (.inl (hfil q h).1)) fun h => List.mem_append.mpr (.inr h)
  have N0 : News h₀ L s.heap ((LA, listOf items.toArray nL) :: (CA, ({ cls := .type "tuple", data := .seq #[Value.int pos tq, ct, Value.ref LA] 0 } : Obj)) :: (MA, ({ cls := .type "tuple", data := .seq #[Value.none, .int pos tm, .str lk ltk] km } : Obj)) :: (T2, ({ cls := .type "tuple", data := .seq #[.int (r.fmod 50 + 1) b1, .int (r + 1) b2] 0 } : Obj)) :: (T1, ({ cls := .type "tuple", data := .seq #[.int (r.fmod 50) a1, .int r tr] 0 } : Obj)) :: (RW, listOf (rowOf (⟨LA, MA, CA, items, nL, pos, lk⟩ :: ls) cur).toArray nR) :: (KD, listOf #[.str (Str.ofString "a") ta, .str (Str.ofString "d") td0, .str (Str.ofString "p") tp] nK) :: (WT, listOf wvs.toArray nW) :: (P, instObj 1367 D) :: (D, dictOf (d.es w) 13) :: (CX, listOf (ctxOf (⟨LA, MA, CA, items, nL, pos, lk⟩ :: ls)).toArray nX) :: (CU, listOf cur.toArray nC) :: (RS, listOf wvs.toArray nS) :: (L + 1, oCE) :: (tl.filter (fun q => decide (q.1 ≠ LA)) ++ ow)) := fun q hq => by
    rcases List.mem_cons.mp hq with rfl | hq
    · exact N _ (hin _ hLm)
    rcases List.mem_cons.mp hq with rfl | hq
    · exact N _ (hin _ hC)
    rcases List.mem_cons.mp hq with rfl | hq
    · exact N _ (hin _ hM)
    (iterate 11 (rcases List.mem_cons.mp hq with rfl | hq; exact N _ (by k_mem)))
    exact N _ (by (repeat' (first | exact inF q hq | refine List.Mem.tail _ ?_)))
  have hbg : 0 ≤ ((begJ (⟨LA, MA, CA, items, nL, pos, lk⟩ :: ls) : Nat) : Int) - 1 := by simp only [begJ]; omega
  have hxM : (rowOf (⟨LA, MA, CA, items, nL, pos, lk⟩ :: ls) cur)[(((begJ (⟨LA, MA, CA, items, nL, pos, lk⟩ :: ls) : Nat) : Int) - 1).toNat]? = some (Value.ref MA) := by
    rw [show (((begJ (⟨LA, MA, CA, items, nL, pos, lk⟩ :: ls) : Nat) : Int) - 1).toNat = (rowOf ls items).length by simp only [begJ]; omega]
    exact row_at _ _ _
  have hd1 : (rowOf (⟨LA, MA, CA, items, nL, pos, lk⟩ :: ls) cur).drop (((begJ (⟨LA, MA, CA, items, nL, pos, lk⟩ :: ls) : Nat) : Int) - 1 + 1).toNat = cur := by rw [show (((begJ (⟨LA, MA, CA, items, nL, pos, lk⟩ :: ls) : Nat) : Int) - 1 + 1).toNat = begJ (⟨LA, MA, CA, items, nL, pos, lk⟩ :: ls) by simp only [begJ]; omega]; exact row_drop _ cur
  have hd2 : (rowOf (⟨LA, MA, CA, items, nL, pos, lk⟩ :: ls) cur).take (((begJ (⟨LA, MA, CA, items, nL, pos, lk⟩ :: ls) : Nat) : Int) - 1).toNat = rowOf ls items := by
    rw [show (((begJ (⟨LA, MA, CA, items, nL, pos, lk⟩ :: ls) : Nat) : Int) - 1).toNat = (rowOf ls items).length by simp only [begJ]; omega]
    exact row_take_out ⟨LA, MA, CA, items, nL, pos, lk⟩ ls cur
  have hrl : (rowOf ls items).length ≤ 100 := by have := hlen; simp only [rowOf, List.length_append] at this; omega
  have hil : items.length ≤ 100 := Nat.le_trans (row_ge ls items) hrl
  have hsl : (ctxOf ls).length ≤ 100 := by rw [ctx_len]; exact Nat.le_trans (ls_le ls items) hrl
  have uL := htlf _ hLm
  have uM := htlf _ hM
  have uC := htlf _ hC
  have lt1 : ∀ q ∈ tl, @LT.lt Nat _ q.1 T1 := fun q hq => allNew_of xA _ (List.mem_append.mpr (.inl hq))
  have lt2 : ∀ q ∈ tl, @LT.lt Nat _ q.1 T2 := fun q hq => allNew_of yA _ (List.mem_append.mpr (.inl hq))
  have hLo : ∀ q ∈ ow, q.1 ≠ LA := off_of hoff (by (repeat' (first | exact List.mem_map.mpr ⟨_, hLm, rfl⟩ | refine List.Mem.tail _ ?_)))
  have oLA : Off LA [RW, KD, WT, P, D, CX, CU, RS, L + 1, MA, CA] := off_con uL.a1 (off_con KDLA (off_con uL.a2 (off_con (ne_obj N0 (by k_mem) (by k_mem) inst_list).symm (off_con uL.a3 (off_con uL.a4 (off_con uL.a5 (off_con uL.a6 (off_con (ne_obj N0 (by k_mem) (by k_mem) (cell_list hce)).symm (off_con (ne_obj N0 (by k_mem) (by k_mem) tup_list).symm (off_con (ne_obj N0 (by k_mem) (by k_mem) tup_list).symm (off_nil _)))))))))))
  have oMA : Off MA [D, CX] := off_con uM.a3 (off_con uM.a4 (off_nil _))
  have oCA : Off CA [D, CX] := off_con uC.a3 (off_con uC.a4 (off_nil _))
  have tLA : ∀ q ∈ tl.filter (fun q => decide (q.1 ≠ LA)) ++ ow, q.1 ≠ LA := fun q hq => (List.mem_append.mp hq).elim (fun h => (hfil q h).2) (hLo q)
  have xB : AllLt T1 (tl.filter (fun q => decide (q.1 ≠ LA)) ++ ow) := allLt_sub fun q hq => allNew_of xA q (inF q hq)
  have yB : AllLt T2 (tl.filter (fun q => decide (q.1 ≠ LA)) ++ ow) := allLt_sub fun q hq => allNew_of yA q (inF q hq)
  refine deedEndC5 (tk1 := 0) (j := begJ (⟨LA, MA, CA, items, nL, pos, lk⟩ :: ls)) (ls := (⟨LA, MA, CA, items, nL, pos, lk⟩ :: ls)) (k := lk) (cs := ctxOf ls) (tl := tl.filter (fun q => decide (q.1 ≠ LA)) ++ ow) B X T F N0 ⟨x1, x2, x3, x4, x5, x6, x7, x8, x9, xB⟩ ⟨y0, y1, y2, y3, y4, y5, y6, y7, y8, y9, yB⟩ hce hlen hwl hcl hr hr2 hctk hcx hcu hcto.kind hbg hxM hd1 hd2 hrl hil hsl hsec (lt1 _ hLm) (lt2 _ hLm) (lt1 _ hC) (lt2 _ hC) (lt1 _ hM) (lt2 _ hM) oLA tLA oMA oCA oD (fun q hq => tD q (inF q hq)) oCX (fun q hq => tCX q (inF q hq)) ?_
  intro h' tk m' RW' DUE DL F2 mr2 mw2 mk2 N2 f0 t0 t1
  rw [row_push] at N2
  obtain ⟨f1, f2, f3, f4, f5⟩ := f0
  have v1 : @Ne Nat KD LA := KDLA.symm
  have v2 : @Ne Nat WT LA := uL.a2.symm
  have v3 : @Ne Nat CX LA := uL.a4.symm
  have v4 : @Ne Nat RS LA := uL.a6.symm
  have hlk := (List.nodup_cons.mp hlan).2
  have hfxm' : ∀ q ∈ fx, q ∈ tl.filter (fun q => decide (q.1 ≠ LA)) := fun q hq => List.mem_filter.mpr ⟨hfxm q hq, decide_eq_true (fun e => hfxl _ (.head _) q hq e.symm)⟩
  refine h _ _ _ ⟨RW', KD, WT, P, D, CX, LA, RS, ls, items ++ [Value.ref DUE], wvs, 0, nK, nW, nX + 1, nL + 1, nS, { d with curtype := ct, curstack := .ref LA }, ta, td0, tp, (DUE, ({ cls := .type "tuple", data := .seq #[.int pos tm, Value.ref DL] 0 } : Obj)) :: tl.filter (fun q => decide (q.1 ≠ LA))⟩ ⟨F2, ?zN, mr2, mw2, mk2, hce, ?zoff, ?zcu, ?zcx, ?zrs, ?zct, ?zlv, ?zll, ?ztc, ?ztw, ?zsix, ?ztlf, ?zlan, ?zfxm, ?zfxl, ?zef, ?zle1, ?zle2⟩
  (case zN => (refine news_sub N2 ?_; simp only [Sd.led, List.cons_append]; (repeat' (first | exact fun q hq => hq | (refine sub_cons (by k_mem) ?_) | (refine sub_tail ?_)))))
  (case zoff => ((try simp only [List.map_cons]); (repeat' (refine off_cons ?_ ?_)); all_goals (first | exact off_of hoff (by k_mem) | exact hLo | exact hLo | exact (fun q hq => Nat.ne_of_lt (allNew_of xA q (List.mem_append.mpr (.inr hq)))) | exact (fun q hq => Nat.ne_of_lt (allNew_of yA q (List.mem_append.mpr (.inr hq)))) | (intro q hq; first | exact t0 q (List.mem_append.mpr (.inr hq)) | exact t1 q (List.mem_append.mpr (.inr hq))) | exact off_mono hoff (fun b hb => (by obtain ⟨q, hq, rfl⟩ := List.mem_map.mp hb; (repeat' (first | exact List.mem_map.mpr ⟨q, (hfil q hq).1, rfl⟩ | refine List.Mem.tail _ ?_))))))) 
  (case zcu => first | exact hcu | rfl)
  (case zcx => first | exact hcx | rfl)
  (case zrs => first | exact hrs | rfl)
  (case zct => exact hcto)
  (case zlv => exact hlv2.mono fun q hq => .tail _ hq)
  (case zll => (intro q hq; refine .tail _ (List.mem_filter.mpr ⟨hll q (.tail _ hq), decide_eq_true ?_⟩); obtain ⟨l, hl, rfl⟩ := List.mem_map.mp hq; exact hrest l hl))
  (case ztc => exact fun v hv => (List.mem_append.mp hv).elim (fun hv => (hthing v (hTo v hv)).mono fun q hq => .tail _ hq) (fun hv => by rw [List.mem_singleton.mp hv]; exact ⟨_, _, _, _, _, rfl, .head _⟩))
  (case ztw => exact fun v hv => (hthing v (htw v hv)).mono fun q hq => .tail _ hq)
  (case zsix => (constructor <;> first | assumption | (apply Ne.symm; assumption)))
  (case ztlf => (intro q hq; (try simp only [List.mem_cons] at hq); rcases hq with rfl | hq <;> (dsimp only; first | (obtain ⟨hq, hqL⟩ := hfil q hq; obtain ⟨z1, z2, z3, z4, z5, z6⟩ := htlf q hq; refine ⟨?_, ?_, ?_, ?_, ?_, ?_⟩ <;> first | assumption | exact t0 q (List.mem_append.mpr (.inl (List.mem_filter.mpr ⟨hq, decide_eq_true hqL⟩))) | exact t1 q (List.mem_append.mpr (.inl (List.mem_filter.mpr ⟨hq, decide_eq_true hqL⟩)))) | (refine ⟨?_, ?_, ?_, ?_, ?_, ?_⟩ <;> first | assumption | exact Nat.ne_of_gt (by assumption) | exact ne_obj N2 (by k_mem) (by k_mem) tup_list | exact ne_obj N2 (by k_mem) (by k_mem) tup_dict))))
  (case zlan => exact hlk)
  (case zfxm => exact fun q hq => (.tail _ (hfxm' q hq)))
  (case zfxl => exact fun l hl => hfxl l (.tail _ hl))
  (case zef => exact hef.imp id (fun ⟨ha, hb, hc⟩ => ⟨⟨ha.a1, ha.a2, ha.a3, ha.a4, ha.a5, ha.a6, ha.a7, ha.a8, ha.a9, ha.b1, ha.b2, ha.b3, ha.b4, ha.b5, ha.b6, ha.b7, ha.b8, ha.b9⟩, fun q hq => .tail _ (List.mem_filter.mpr ⟨hb q hq, decide_eq_true (fun e => hc _ (.head _) q hq e.symm)⟩), fun l hl => hc l (.tail _ hl)⟩))
  (case zle1 => (have e1 := row_len ls items; have e2 := row_len ls (items ++ [Value.ref DUE]); have e3 := hle1; simp only [rowOf, List.length_append, List.length_cons, List.length_nil] at e2 e3; dsimp only; omega))
  (case zle2 => (dsimp only; omega))
end
end Mine
end
section
theorem Mine.freshT4 : True := by
  run_tac (do PyProof.Rows.walkLines.set (0, {}); PyProof.Rows.walkHit.set {}; PyProof.Rows.walkTop.set false; PyProof.Rows.walkStart.set 0; PyProof.Rows.walkLate.set false)
  trivial
open PySem PySem.W PySem.Calls PyProof.Rows
set_option Elab.async false
set_option maxRecDepth 100000
set_option maxHeartbeats 400000
set_option linter.unusedVariables false
set_option linter.unusedSimpArgs false
namespace Mine
open PySem.Spec
def FeOk (w : World) (P : Addr) (d₀ : PD) (fe : List (Addr × Obj)) : Prop := ∃ (TK PM BA FP FD : Addr) (nT : Nat) (u1 u2 u3 ub uc : Tok), d₀.eof = .bool false ∧ d₀.tokens = .ref TK ∧ d₀.fp = .ref FP ∧ d₀.buf = .bytes #[] ub ∧ d₀.charpos = .int 0 uc ∧ d₀.parse1 = .ref PM ∧
  (TK, listOf #[] nT) ∈ fe ∧ (PM, methodObj (.ref 1186) (.ref P)) ∈ fe ∧ (BA, ({ cls := .type "bytearray", data := .bytearray #[] 0 } : Obj)) ∈ fe ∧ (FP, instObj 874 FD) ∈ fe ∧ (FD, dictOf [ent w "_BytesIO__buf" u1 (.ref BA), ent w "_BytesIO__pos" u2 (.int 0 u3)] 2) ∈ fe
theorem fe_news {h₀ h : Heap} {L : Addr} {news fe : List (Addr × Obj)} {a b c d e : Addr × Obj} (N : News h₀ L h news) (hs : ∀ q ∈ fe, q ∈ news) (ha : a ∈ fe) (hb : b ∈ fe) (hc : c ∈ fe) (hd : d ∈ fe) (he : e ∈ fe) : News h₀ L h (a :: b :: c :: d :: e :: news) := fun q hq => by
  rcases List.mem_cons.mp hq with rfl | hq
  · exact N _ (hs _ ha)
  rcases List.mem_cons.mp hq with rfl | hq
  · exact N _ (hs _ hb)
  rcases List.mem_cons.mp hq with rfl | hq
  · exact N _ (hs _ hc)
  rcases List.mem_cons.mp hq with rfl | hq
  · exact N _ (hs _ hd)
  rcases List.mem_cons.mp hq with rfl | hq
  · exact N _ (hs _ he)
  · exact N _ hq
section
variable {w : World} {E : Value → Shared → Prop} {Q : Flow → Shared → Prop} {s : Shared} {h₀ : Heap} {L fa : Addr} {cd : Value} {u : Str → Option Value}
  {p : Program} {loose : List Str} {mean : ExcName → Option Value} {mg mb : Str → Option Value} {tl : List (Addr × Obj)} {RW KD WT P D CX CU RS T1 T2 : Addr} {ls : List Lev} {cur wvs : List Value} {nR nK nW nX nC nS : Nat} {d : PD} {oCE : Obj} {ta td0 tp tb td tr a1 b1 b2 : Tok} {r dd bg : Int} {kd : Value} {bx nx : Option Value}
theorem stepAsked3 {fx fe ow : List (Addr × Obj)} {d₀ : PD} {i : Nat} (B : Below callerA h₀ [] h₀) (X : (K w.params).In h₀) (T : Top p loose mean mg mb h₀) (S : Snd L oCE fx fe d₀ ⟨RW, KD, WT, P, D, CX, CU, RS, ls, cur, [], nR, nK, nW, nX, nC, nS, d, ta, td0, tp, tl⟩ ow i) (hi : i < 24) (F : Fr h₀ L s.heap (fun y => if y = Str.ofString "first" then some (Value.ref T1) else if y = Str.ofString "second" then some (Value.ref T2) else if y = Str.ofString "kind" then some kd else if y = Str.ofString "begin" then some (Value.int bg tb) else if y = Str.ofString "deed" then some (Value.int 9 td) else if y = Str.ofString "rest" then some (Value.int r tr) else if y = Str.ofString "rest" then bx else if y = Str.ofString "number" then nx else if y = Str.ofString "row" then some (Value.ref RW) else if y = Str.ofString "waiting" then some (Value.ref WT) else if y = Str.ofString "kinds" then some (Value.ref KD) else u y))
    (N : News h₀ L s.heap ((T2, ({ cls := .type "tuple", data := .seq #[.int (r.fmod 50 + 1) b1, .int (r + 1) b2] 0 } : Obj)) :: (T1, ({ cls := .type "tuple", data := .seq #[.int (r.fmod 50) a1, .int r tr] 0 } : Obj)) :: (RW, listOf (rowOf ls cur).toArray nR) :: (KD, listOf #[.str (Str.ofString "a") ta, .str (Str.ofString "d") td0, .str (Str.ofString "p") tp] nK) :: (WT, listOf #[] nW) :: (P, instObj 1367 D) :: (D, dictOf (d.es w) 13) :: (CX, listOf (ctxOf ls).toArray nX) :: (CU, listOf cur.toArray nC) :: (RS, listOf #[] nS) :: (L + 1, oCE) :: (tl ++ ow))) (l1 : (@LT.lt Nat _ (RW) T1 ∧ @LT.lt Nat _ (KD) T1 ∧ @LT.lt Nat _ (WT) T1 ∧ @LT.lt Nat _ (P) T1 ∧ @LT.lt Nat _ (D) T1 ∧ @LT.lt Nat _ (CX) T1 ∧ @LT.lt Nat _ (CU) T1 ∧ @LT.lt Nat _ (RS) T1 ∧ @LT.lt Nat _ (L + 1) T1 ∧ AllLt T1 (tl ++ ow))) (l2 : @LT.lt Nat _ T1 T2 ∧ @LT.lt Nat _ (RW) T2 ∧ @LT.lt Nat _ (KD) T2 ∧ @LT.lt Nat _ (WT) T2 ∧ @LT.lt Nat _ (P) T2 ∧ @LT.lt Nat _ (D) T2 ∧ @LT.lt Nat _ (CX) T2 ∧ @LT.lt Nat _ (CU) T2 ∧ @LT.lt Nat _ (RS) T2 ∧ @LT.lt Nat _ (L + 1) T2 ∧ AllLt T2 (tl ++ ow))
    (hr : 0 ≤ r) (hr2 : r < 10000) (hFe : FeOk w P d₀ fe) (hY : Young d d₀) (hfe : ∀ q ∈ fe, q ∈ tl)
    (h : ∀ h' tk m' x', Good w L oCE fx fe d₀ x' h₀ h' m' ow (i + 1) → Q .next { s with heap := h', toks := tk }) :
    wpAny (model PySem.Challenge.rw_ae5031_04.row.prog w) (callerA.deeper (envOfC (Str.ofString "law") lawScope L fa cd)) (exec chain (envOfC (Str.ofString "law") lawScope L fa cd)) (fun f s' => match f with | .next => wpAny (model PySem.Challenge.rw_ae5031_04.row.prog w) (callerA.deeper (envOfC (Str.ofString "law") lawScope L fa cd)) (execs [] (envOfC (Str.ofString "law") lawScope L fa cd)) Q E s' | f => Q f s') E s := by
  obtain ⟨hce, hoff, hcu, hcx, hrs, hct, hlv, hll, htc, htw, n6, htlf, hlan, hfxm, hfxl, hef, hle1, hle2⟩ := S
  dsimp only at hce hoff hcu hcx hrs hct hlv hll htc htw n6 htlf hlan hfxm hfxl hef hle1 hle2
  obtain ⟨n1, n2, n3, n4, n5, n6, n7, n8, n9, n10, n11, n12, n13, n14, n15⟩ := n6
  have hlen : (rowOf ls cur).length ≤ 100 := by omega
  have hwl : (([]) : List Value).length ≤ 100 := Nat.le_trans hle2 (by omega)
  have hcl : cur.length ≤ 100 := Nat.le_trans (row_ge ls cur) hlen
  have hxl : (ctxOf ls).length ≤ 100 := by rw [ctx_len]; exact Nat.le_trans (ls_le ls cur) hlen
  obtain ⟨x1, x2, x3, x4, x5, x6, x7, x8, x9, xA⟩ := id l1
  obtain ⟨y0, y1, y2, y3, y4, y5, y6, y7, y8, y9, yA⟩ := id l2
  have oD : Off D [RW, KD, WT, P, CX, CU, RS, L + 1] := (off_con (ne_obj N (by k_mem) (by k_mem) dict_list) (off_con (ne_obj N (by k_mem) (by k_mem) dict_list) (off_con (ne_obj N (by k_mem) (by k_mem) dict_list) (off_con (ne_obj N (by k_mem) (by k_mem) inst_dict.symm) (off_con (ne_obj N (by k_mem) (by k_mem) dict_list) (off_con (ne_obj N (by k_mem) (by k_mem) dict_list) (off_con (ne_obj N (by k_mem) (by k_mem) dict_list) (off_con (ne_obj N (by k_mem) (by k_mem) (cell_dict hce).symm) (off_nil D)))))))))
  have tD : ∀ q ∈ tl ++ ow, q.1 ≠ D := fun q hq => (List.mem_append.mp hq).elim (fun h => (htlf q h).a3) (off_of hoff (by k_mem) q)
  obtain ⟨TK, PM, BA, FP, FD, nT, u1, u2, u3, ub, uc, q1, q2, q3, q4, q5, q6, mTK, mPM, mBA, mFP, mFD⟩ := hFe
  obtain ⟨ya1, ya2, ya3, ya4, ya5, ya6, ya7, ya8, ya9, yb1, yb2, yb3, yb4, yb5, yb6, yb7, yb8, yb9⟩ := hY
  have uTK := htlf _ (hfe _ mTK)
  have uPM := htlf _ (hfe _ mPM)
  have uBA := htlf _ (hfe _ mBA)
  have uFP := htlf _ (hfe _ mFP)
  have uFD := htlf _ (hfe _ mFD)
  have inn : ∀ q ∈ fe, q ∈ tl ++ ow := fun q hq => List.mem_append.mpr (.inl (hfe q hq))
  have N1 := fe_news N (fun q hq => by (repeat' (first | exact inn q hq | refine List.Mem.tail _ ?_))) mTK mPM mBA mFP mFD
  refine deedAsked3 (tl := tl ++ ow) B X T F N1 l1 l2 hce hlen hwl hcl hr hr2 hrs (ya2.trans q1) (ya9.trans q2) (ya1.trans q3) (ya4.trans q4) (ya5.trans q5) (ya6.trans q6) rfl (off_con uTK.a3 (off_con uTK.a6 (off_nil _))) (off_con uPM.a3 (off_nil _)) (off_con uBA.a3 (off_nil _)) (off_con uFP.a3 (off_nil _)) (off_con uFD.a3 (off_nil _)) oD tD ?_
  intro h' tk m' WT' vb vf vc F2 mr2 mw2 mk2 N2 f0 t0
  obtain ⟨f1, f2, f3, f4, f5, f6⟩ := f0
  refine h _ _ _ ⟨RW, KD, WT', P, D, CX, CU, RS, ls, cur, [], nR, nK, 0, nX, nC, nS, { d with eof := .bool true, bufpos := vb, buf := vf, charpos := vc }, ta, td0, tp, tl⟩ ⟨F2, ?zN, mr2, mw2, mk2, hce, ?zoff, ?zcu, ?zcx, ?zrs, ?zct, ?zlv, ?zll, ?ztc, ?ztw, ?zsix, ?ztlf, ?zlan, ?zfxm, ?zfxl, ?zef, ?zle1, ?zle2⟩
  (case zN => (refine news_sub N2 ?_; simp only [Sd.led, List.cons_append]; (repeat' (first | exact fun q hq => hq | (refine sub_cons (by k_mem) ?_) | (refine sub_tail ?_)))))
  (case zoff => ((try simp only [List.map_cons]); (repeat' (refine off_cons ?_ ?_)); all_goals (first | exact off_of hoff (by k_mem) | exact (fun q hq => Nat.ne_of_lt (allNew_of xA q (List.mem_append.mpr (.inr hq)))) | exact (fun q hq => Nat.ne_of_lt (allNew_of yA q (List.mem_append.mpr (.inr hq)))) | (intro q hq; first | exact t0 q (List.mem_append.mpr (.inr hq))) | exact off_mono hoff (fun b hb => (by (repeat' (first | exact hb | refine List.Mem.tail _ ?_))))))) 
  (case zcu => first | exact hcu | rfl)
  (case zcx => first | exact hcx | rfl)
  (case zrs => first | exact hrs | rfl)
  (case zct => exact hct)
  (case zlv => exact hlv.mono fun q hq => hq)
  (case zll => exact fun q hq => (hll q hq))
  (case ztc => exact fun v hv => (htc v hv).mono fun q hq => hq)
  (case ztw => exact fun v hv => (htw v hv).mono fun q hq => hq)
  (case zsix => (constructor <;> first | assumption | (apply Ne.symm; assumption)))
  (case ztlf => (intro q hq; (try simp only [List.mem_cons] at hq); rcases hq with hq <;> (dsimp only; first | (obtain ⟨z1, z2, z3, z4, z5, z6⟩ := htlf q hq; refine ⟨?_, ?_, ?_, ?_, ?_, ?_⟩ <;> first | assumption | exact t0 q (List.mem_append.mpr (.inl hq))) | (refine ⟨?_, ?_, ?_, ?_, ?_, ?_⟩ <;> first | assumption | exact Nat.ne_of_gt (by assumption) | exact ne_obj N2 (by k_mem) (by k_mem) tup_list | exact ne_obj N2 (by k_mem) (by k_mem) tup_dict))))
  (case zlan => exact hlan)
  (case zfxm => exact fun q hq => (hfxm q hq))
  (case zfxl => exact hfxl)
  (case zef => exact .inl rfl)
  (case zle1 => (dsimp only; omega))
  (case zle2 => (dsimp only; omega))
end
end Mine
end
section
theorem Mine.freshT5 : True := by
  run_tac (do PyProof.Rows.walkLines.set (0, {}); PyProof.Rows.walkHit.set {}; PyProof.Rows.walkTop.set false; PyProof.Rows.walkStart.set 0; PyProof.Rows.walkLate.set false)
  trivial
open PySem PySem.W PySem.Calls PyProof.Rows
set_option Elab.async false
set_option maxRecDepth 100000
set_option maxHeartbeats 400000
set_option linter.unusedVariables false
set_option linter.unusedSimpArgs false
namespace Mine
open PySem.Spec
theorem fdiv_lt {q : Int} (h0 : 0 ≤ q) (h1 : q < 110000) : 0 ≤ q.fdiv 11 ∧ q.fdiv 11 < 10000 := by
  rw [Int.fdiv_eq_ediv_of_nonneg _ (by decide)]; omega
theorem fmod_lt {q : Int} : 0 ≤ q.fmod 11 ∧ q.fmod 11 < 11 := ⟨Int.fmod_nonneg_of_pos _ (by decide), Int.fmod_lt_of_pos _ (by decide)⟩
theorem kd_ne_items {items : List Value} {nL nK : Nat} {ta td tp : Tok} {nx : List (Addr × Obj)} (h : ∀ v ∈ items, Thing nx v) : listOf items.toArray nL ≠ kdO ta td tp nK := fun e => by
  have e2 : items = [.str (Str.ofString "a") ta, .str (Str.ofString "d") td, .str (Str.ofString "p") tp] := by
    have := congrArg Obj.data e
    simp only [W.listOf, Data.seq.injEq] at this
    simpa using congrArg Array.toList this.1
  obtain ⟨t, a, tb, x, k, hv, _⟩ := h (.str (Str.ofString "a") ta) (by rw [e2]; exact .head _)
  cases hv
section
variable {w : World} {E : Value → Shared → Prop} {Q : Flow → Shared → Prop} {s : Shared} {h₀ : Heap} {L fa : Addr} {cd : Value}
  {p : Program} {loose : List Str} {mean : ExcName → Option Value} {mg mb : Str → Option Value} {oCE : Obj} {fx fe ow : List (Addr × Obj)} {d₀ : PD} {i : Nat}
theorem turn {x : Sd} {u : Str → Option Value} {n : Int} {t : Tok} (B : Below callerA h₀ [] h₀) (X : (K w.params).In h₀) (T : Top p loose mean mg mb h₀) (S : Snd L oCE fx fe d₀ x ow i) (hi : i < 24) (hFe : FeOk w x.P d₀ fe)
    (F : Fr h₀ L s.heap (fun y => if y = Str.ofString "number" then some (Value.int n t) else u y)) (N : News h₀ L s.heap (x.led w L oCE ++ ow))
    (mr : u (Str.ofString "row") = some (.ref x.RW)) (mw : u (Str.ofString "waiting") = some (.ref x.WT)) (mkd : u (Str.ofString "kinds") = some (.ref x.KD))
    (h : ∀ h' tk m' x', Good w L oCE fx fe d₀ x' h₀ h' m' ow (i + 1) → Q .next { s with heap := h', toks := tk }) :
    wpAny (model PySem.Challenge.rw_ae5031_04.row.prog w) (callerA.deeper (envOfC (Str.ofString "law") lawScope L fa cd)) (execs forBody (envOfC (Str.ofString "law") lawScope L fa cd)) Q E s := by
  obtain ⟨RW, KD, WT, P, D, CX, CU, RS, ls, cur, wvs, nR, nK, nW, nX, nC, nS, d, ta, td0, tp, tl⟩ := x
  simp only [Sd.led, List.cons_append] at N mr mw mkd hFe
  have F1 : Fr h₀ L s.heap (fun y => if y = Str.ofString "number" then some (Value.int n t) else if y = Str.ofString "row" then some (.ref RW) else if y = Str.ofString "waiting" then some (.ref WT) else if y = Str.ofString "kinds" then some (.ref KD) else u y) := by
    have e : (fun y => if y = Str.ofString "number" then some (Value.int n t) else u y) = (fun y => if y = Str.ofString "number" then some (Value.int n t) else if y = Str.ofString "row" then some (.ref RW) else if y = Str.ofString "waiting" then some (.ref WT) else if y = Str.ofString "kinds" then some (.ref KD) else u y) := by
      funext y
      by_cases h1 : y = Str.ofString "number"
      · simp only [if_pos h1]
      simp only [if_neg h1]
      by_cases h2 : y = Str.ofString "row"
      · rw [if_pos h2, h2]; exact mr
      rw [if_neg h2]
      by_cases h3 : y = Str.ofString "waiting"
      · rw [if_pos h3, h3]; exact mw
      rw [if_neg h3]
      by_cases h4 : y = Str.ofString "kinds"
      · rw [if_pos h4, h4]; exact mkd
      rw [if_neg h4]
    rw [← e]; exact F
  have hlen : (rowOf ls cur).length ≤ 100 := by have := S.hle1; dsimp only at this; omega
  have q0 : 0 ≤ n.fmod 110000 := Int.fmod_nonneg_of_pos _ (by decide)
  have q1 : n.fmod 110000 < 110000 := Int.fmod_lt_of_pos _ (by decide)
  obtain ⟨hr, hr2⟩ := fdiv_lt q0 q1
  obtain ⟨d0, d1⟩ := fmod_lt (q := n.fmod 110000)
  obtain ⟨k, tk1, hkd, hk⟩ := kd_of (ta := ta) (td := td0) (tp := tp) (r := ((n.fmod 110000).fdiv 11).fmod 3) (Int.fmod_nonneg_of_pos _ (by decide)) (Int.fmod_lt_of_pos _ (by decide))
  have up : ∀ q ∈ tl, q ∈ ((WT, listOf wvs.toArray nW) :: (P, instObj 1367 D) :: (D, dictOf (d.es w) 13) :: (CX, listOf (ctxOf ls).toArray nX) :: (CU, listOf cur.toArray nC) :: (RS, listOf wvs.toArray nS) :: (L + 1, oCE) :: (tl ++ ow)) := fun q hq => .tail _ (.tail _ (.tail _ (.tail _ (.tail _ (.tail _ (.tail _ (List.mem_append.mpr (.inl hq))))))))
  obtain ⟨b1, b2, b3⟩ := beg_ok (S.hlv.mono up) (fun v hv => (S.htc v hv).mono up)
  show wpAny _ _ (execs (forHead ++ [chain]) _) _ _ _
  refine head0 (X1 := chain) (j := begJ ls) B X T F1 N (Nat.le_trans hlen (by decide)) b1 b2 b3 hkd ?_
  intro h' tk T0 T1 T2 Tp o0 op tb td tr a1 b1 b2 bx nx F2 N2 l1 l2
  generalize (n.fmod 110000).fmod 11 = dd at *
  generalize (n.fmod 110000).fdiv 11 = r at *
  have N3 : News h₀ L h' ((T2, ({ cls := .type "tuple", data := .seq #[.int (r.fmod 50 + 1) b1, .int (r + 1) b2] 0 } : Obj)) :: (T1, ({ cls := .type "tuple", data := .seq #[.int (r.fmod 50) a1, .int r tr] 0 } : Obj)) :: (RW, listOf (rowOf ls cur).toArray nR) :: (KD, listOf #[.str (Str.ofString "a") ta, .str (Str.ofString "d") td0, .str (Str.ofString "p") tp] nK) :: (WT, listOf wvs.toArray nW) :: (P, instObj 1367 D) :: (D, dictOf (d.es w) 13) :: (CX, listOf (ctxOf ls).toArray nX) :: (CU, listOf cur.toArray nC) :: (RS, listOf wvs.toArray nS) :: (L + 1, oCE) :: (tl ++ ow)) := news_sub N2 (fun q hq => by
    rcases List.mem_cons.mp hq with rfl | hq
    · exact .tail _ (.head _)
    rcases List.mem_cons.mp hq with rfl | hq
    · exact .tail _ (.tail _ (.head _))
    · exact .tail _ (.tail _ (.tail _ (.tail _ hq))))
  have L1 : (@LT.lt Nat _ (RW) T1 ∧ @LT.lt Nat _ (KD) T1 ∧ @LT.lt Nat _ (WT) T1 ∧ @LT.lt Nat _ (P) T1 ∧ @LT.lt Nat _ (D) T1 ∧ @LT.lt Nat _ (CX) T1 ∧ @LT.lt Nat _ (CU) T1 ∧ @LT.lt Nat _ (RS) T1 ∧ @LT.lt Nat _ (L + 1) T1 ∧ AllLt T1 (tl ++ ow)) := ⟨l1.2.1, l1.2.2.1, l1.2.2.2⟩
  have L2 : @LT.lt Nat _ T1 T2 ∧ @LT.lt Nat _ (RW) T2 ∧ @LT.lt Nat _ (KD) T2 ∧ @LT.lt Nat _ (WT) T2 ∧ @LT.lt Nat _ (P) T2 ∧ @LT.lt Nat _ (D) T2 ∧ @LT.lt Nat _ (CX) T2 ∧ @LT.lt Nat _ (CU) T2 ∧ @LT.lt Nat _ (RS) T2 ∧ @LT.lt Nat _ (L + 1) T2 ∧ AllLt T2 (tl ++ ow) := ⟨l2.1, l2.2.2.1, l2.2.2.2.1, l2.2.2.2.2⟩
  clear l1 l2 N2 N F1 F
  have hdd : dd < 2 ∨ dd = 2 ∨ dd = 3 ∨ dd = 4 ∨ dd = 5 ∨ dd = 6 ∨ dd = 7 ∨ dd = 8 ∨ dd = 9 ∨ dd = 10 := by omega
  rcases hdd with hd | rfl | rfl | rfl | rfl | rfl | rfl | rfl | rfl | rfl
  · exact stepPush1 B X T S hi F2 N3 L1 L2 hr hr2 d0 hd fun a b c e => h a b c e
  · exact stepPush2 B X T S hi F2 N3 L1 L2 hr hr2 fun a b c e => h a b c e
  · exact stepStart B X T S hi F2 N3 L1 L2 hr hr2 hk fun a b c e => h a b c e
  · cases ls with
    | nil => exact stepEndA4 B X T S hi F2 N3 L1 L2 hr hr2 hk fun a b c e => h a b c e
    | cons l ls =>
      obtain ⟨LA, MA, CA, items, nL, pos, lk⟩ := l
      have hLm : (LA, listOf items.toArray nL) ∈ tl := S.hll _ (.head _)
      have hT : ∀ v ∈ items, Thing tl v := by have := S.hlv; cases this with | cons hM hC hct hT hk r => exact hT
      have KDLA : @Ne Nat LA KD := ne_obj N3 (by (repeat' (first | exact List.mem_append.mpr (.inl hLm) | refine List.Mem.tail _ ?_))) (.tail _ (.tail _ (.tail _ (.head _)))) (kd_ne_items hT)
      by_cases e : lk = k
      · subst e
        exact stepEndC4 B X T S hi F2 N3 L1 L2 hr hr2 KDLA fun a b c e => h a b c e
      · exact stepEndB B X T S hi F2 N3 L1 L2 hr hr2 hk e fun a b c e => h a b c e
  · cases ls with
    | nil => exact stepEndA5 B X T S hi F2 N3 L1 L2 hr hr2 hk fun a b c e => h a b c e
    | cons l ls =>
      obtain ⟨LA, MA, CA, items, nL, pos, lk⟩ := l
      have hLm : (LA, listOf items.toArray nL) ∈ tl := S.hll _ (.head _)
      have hT : ∀ v ∈ items, Thing tl v := by have := S.hlv; cases this with | cons hM hC hct hT hk r => exact hT
      have KDLA : @Ne Nat LA KD := ne_obj N3 (by (repeat' (first | exact List.mem_append.mpr (.inl hLm) | refine List.Mem.tail _ ?_))) (.tail _ (.tail _ (.tail _ (.head _)))) (kd_ne_items hT)
      exact stepEndC5 (tk1 := tk1) B X T S hi F2 N3 L1 L2 hr hr2 KDLA fun a b c e => h a b c e
  · exact stepPop B X T S hi F2 N3 L1 L2 hr hr2 fun a b c e => h a b c e
  · exact stepPopall B X T S hi F2 N3 L1 L2 hr hr2 fun a b c e => h a b c e
  · exact stepResults B X T S hi F2 N3 L1 L2 hr hr2 fun a b c e => h a b c e
  · cases wvs with
    | nil =>
      rcases S.hef with e | ⟨hY, hfe, _⟩
      · exact stepAsked2 B X T S hi F2 N3 L1 L2 hr hr2 e fun a b c e => h a b c e
      · exact stepAsked3 B X T S hi F2 N3 L1 L2 hr hr2 hFe hY hfe fun a b c e => h a b c e
    | cons v9 ws => exact stepAsked1 B X T S hi F2 N3 L1 L2 hr hr2 fun a b c e => h a b c e
  · exact stepReset B X T S hi F2 N3 L1 L2 hr hr2 fun a b c e => h a b c e
end
end Mine
end
section
theorem Mine.freshT6 : True := by
  run_tac (do PyProof.Rows.walkLines.set (0, {}); PyProof.Rows.walkHit.set {}; PyProof.Rows.walkTop.set false; PyProof.Rows.walkStart.set 0; PyProof.Rows.walkLate.set false)
  trivial
open PySem PySem.W PySem.Calls PyProof.Rows
set_option Elab.async false
set_option maxRecDepth 100000
set_option maxHeartbeats 400000
set_option linter.unusedVariables false
set_option linter.unusedSimpArgs false
namespace Mine
open PySem.Spec
theorem Snd.own {w : World} {L : Addr} {oCE : Obj} {fx fe ow ow' : List (Addr × Obj)} {d₀ : PD} {x : Sd} {i : Nat} (S : Snd L oCE fx fe d₀ x ow i) (h : OwnOff ow' ((x.led w L oCE).map (·.1))) : Snd L oCE fx fe d₀ x ow' i :=
  ⟨S.hce, h, S.hcu, S.hcx, S.hrs, S.hct, S.hlv, S.hll, S.htc, S.htw, S.n6, S.htlf, S.hlan, S.hfxm, S.hfxl, S.hef, S.hle1, S.hle2⟩
theorem Snd.later {L : Addr} {oCE : Obj} {fx fe ow : List (Addr × Obj)} {d₀ : PD} {x : Sd} {i j : Nat} (S : Snd L oCE fx fe d₀ x ow i) (h : i ≤ j) : Snd L oCE fx fe d₀ x ow j :=
  ⟨S.hce, S.hoff, S.hcu, S.hcx, S.hrs, S.hct, S.hlv, S.hll, S.htc, S.htw, S.n6, S.htlf, S.hlan, S.hfxm, S.hfxl, S.hef, Nat.le_trans S.hle1 (by omega), Nat.le_trans S.hle2 (by omega)⟩
theorem Snd.bare {L : Addr} {oCE : Obj} {fx fe ow : List (Addr × Obj)} {d₀ : PD} {x : Sd} {i : Nat} (S : Snd L oCE fx fe d₀ x ow i) : Snd L oCE [] fe d₀ x [] i :=
  ⟨S.hce, (fun _ h => nomatch h), S.hcu, S.hcx, S.hrs, S.hct, S.hlv, S.hll, S.htc, S.htw, S.n6, S.htlf, S.hlan, (fun _ h => nomatch h), (fun _ _ _ h => nomatch h), S.hef, S.hle1, S.hle2⟩
theorem Snd.add {w : World} {L : Addr} {oCE : Obj} {fe : List (Addr × Obj)} {d₀ : PD} {x : Sd} {i : Nat} {l : Addr} {o : Obj} (S : Snd L oCE [] fe d₀ x [] i) (h : ∀ p ∈ x.led w L oCE, @LT.lt Nat _ p.1 l) :
    Snd L oCE [(l, o)] fe d₀ { x with tl := (l, o) :: x.tl } [] i := by
  have inl : ∀ q ∈ x.tl, q ∈ x.led w L oCE := fun q hq => .tail _ (.tail _ (.tail _ (.tail _ (.tail _ (.tail _ (.tail _ (.tail _ (.tail _ hq))))))))
  have ne : ∀ a ob, (a, ob) ∈ x.led w L oCE → @Ne Nat l a := fun a ob hm => Nat.ne_of_gt (h _ hm)
  refine ⟨S.hce, (fun _ h => nomatch h), S.hcu, S.hcx, S.hrs, S.hct, S.hlv.mono fun q hq => .tail _ hq, fun q hq => .tail _ (S.hll q hq), fun v hv => (S.htc v hv).mono fun q hq => .tail _ hq, fun v hv => (S.htw v hv).mono fun q hq => .tail _ hq, S.n6, ?_, S.hlan, ?_, ?_, ?_, S.hle1, S.hle2⟩
  · intro q hq
    rcases List.mem_cons.mp hq with rfl | hq
    · exact ⟨ne _ _ (.head _), ne _ _ (.tail _ (.tail _ (.head _))), ne _ _ (.tail _ (.tail _ (.tail _ (.tail _ (.head _))))), ne _ _ (.tail _ (.tail _ (.tail _ (.tail _ (.tail _ (.head _)))))), ne _ _ (.tail _ (.tail _ (.tail _ (.tail _ (.tail _ (.tail _ (.head _))))))), ne _ _ (.tail _ (.tail _ (.tail _ (.tail _ (.tail _ (.tail _ (.tail _ (.head _))))))))⟩
    · exact S.htlf q hq
  · intro q hq
    rw [List.mem_singleton.mp hq]
    exact .head _
  · intro lv hlv q hq
    rw [List.mem_singleton.mp hq]
    exact (ne _ _ (inl _ (S.hll (lv.LA, listOf lv.items.toArray lv.n) (List.mem_map.mpr ⟨lv, hlv, rfl⟩)))).symm
  · exact S.hef.imp id fun ⟨a, b, c⟩ => ⟨a, fun q hq => .tail _ (b q hq), c⟩
structure Hid (p : Prop) : Prop where
  mk ::
  go : p
theorem cell_same {oCE : Obj} {P P' : Addr} (h : oCE.data = .cell (some (.ref P))) (h' : oCE.data = .cell (some (.ref P'))) : P = P' := by
  rw [h] at h'
  exact Value.ref.inj (Option.some.inj (Data.cell.inj h'))
section
variable {w : World} {E : Value → Shared → Prop} {Q : Flow → Shared → Prop} {s : Shared} {h₀ : Heap} {L fa : Addr} {cd : Value}
  {p : Program} {loose : List Str} {mean : ExcName → Option Value} {mg mb : Str → Option Value} {oCE : Obj} {fx fe ow : List (Addr × Obj)} {d₀ : PD} {i : Nat}
theorem loop1 {x : Sd} {u : Str → Option Value} {A0 P₀ : Addr} {its : List Value} (B : Below callerA h₀ [] h₀) (X : (K w.params).In h₀) (T : Top p loose mean mg mb h₀) (S : Snd L oCE [] fe d₀ x [] 0) (hCE : oCE.data = .cell (some (.ref P₀))) (hFe : FeOk w P₀ d₀ fe)
    (hints : ∀ v ∈ its, ∃ k t, v = Value.int k t) (hlen : its.length ≤ 900) (hl0 : Hid (h₀.IsList A0 its.toArray))
    (F : Fr h₀ L s.heap (fun y => if y = Str.ofString "script" then some (Value.ref A0) else u y)) (N : News h₀ L s.heap (x.led w L oCE))
    (mr : u (Str.ofString "row") = some (.ref x.RW)) (mw : u (Str.ofString "waiting") = some (.ref x.WT)) (mkd : u (Str.ofString "kinds") = some (.ref x.KD))
    (hE : PassesOwn (model PySem.Challenge.rw_ae5031_04.row.prog w) (callerA.deeper (envOfC (Str.ofString "law") lawScope L fa cd)) (envOfC (Str.ofString "law") lawScope L fa cd) E)
    (h : ∀ h' tk m' x', Fr h₀ L h' m' → News h₀ L h' (x'.led w L oCE) → m' (Str.ofString "row") = some (.ref x'.RW) → m' (Str.ofString "waiting") = some (.ref x'.WT) → m' (Str.ofString "kinds") = some (.ref x'.KD) → Snd L oCE [] fe d₀ x' [] 24 → Q .next { s with heap := h', toks := tk }) :
    wpAny (model PySem.Challenge.rw_ae5031_04.row.prog w) (callerA.deeper (envOfC (Str.ofString "law") lawScope L fa cd)) (exec lawFor (envOfC (Str.ofString "law") lawScope L fa cd)) Q E s := by
  revert X
  k_fill
  intro X
  unfold lawFor
  refine For_invVF F rfl rfl ?_
  k_steps
  have e0 : slicePick its.toArray none (some 24) none = (its.take (24 : Int).toNat).toArray := pick_upto (by omega)
  refine' kmk_slice (lo := none) (hi := some 24) F N (F.lst hl0.go) ?zzp ?zzq ?_ ?zzs ?zzt ?zzz
  case zzp => kmk_part
  case zzq => kmk_part
  case zzs => with_unfolding_all rfl
  case zzt => kmk_pure
  case zzz => (rw [sizeLine_eq]; simp only [List.size_toArray]; omega)
  intro D h' F1 N1 l1
  rw [e0] at N1
  have S1 := S.add (o := listOf (its.take (24 : Int).toNat).toArray 0) l1
  refine kdl_iter (l := D) (vs := its.take (24 : Int).toNat) (nn := 0) (news := Sd.led w L oCE { x with tl := (D, listOf (its.take (24 : Int).toNat).toArray 0) :: x.tl })
    (fun i m nx => ∃ x', nx = Sd.led w L oCE x' ∧ m (Str.ofString "row") = some (.ref x'.RW) ∧ m (Str.ofString "waiting") = some (.ref x'.WT) ∧ m (Str.ofString "kinds") = some (.ref x'.KD) ∧ Snd L oCE [(D, listOf (its.take (24 : Int).toNat).toArray 0)] fe d₀ x' [] i)
    rfl (.tail _ (.tail _ (.tail _ (.tail _ (.tail _ (.tail _ (.tail _ (.tail _ (.tail _ (.head _)))))))))) F1 (fun q hq => N1 q ?_) ⟨_, rfl, ?_, ?_, ?_, S1⟩ ?_ ?_
  · simp only [Sd.led, List.mem_cons] at hq ⊢
    rcases hq with e | e | e | e | e | e | e | e | e | e | e <;> simp only [e, true_or, or_true]
  · exact mr
  · exact mw
  · exact mkd
  · rintro i v m₁ nx h2 tk own hv hoff hl ⟨x', rfl, mr', mw', mk', S'⟩ F2 N2
    have hi : i < 24 := by
      have := (List.getElem?_eq_some_iff.mp hv).1
      rw [List.length_take] at this
      have : i < (24 : Int).toNat := Nat.lt_of_lt_of_le this (Nat.min_le_left _ _)
      exact this
    obtain ⟨k, t, rfl⟩ := hints v (List.mem_of_mem_take (List.mem_of_getElem? hv))
    have hP : x'.P = P₀ := (cell_same hCE S'.hce).symm
    refine turn B X T (S'.own hoff) hi (hP ▸ hFe) F2 N2 mr' mw' mk' ?_
    intro h3 tk3 m3 x3 G
    refine InvEndG.intro G.F G.N ⟨G.S.hfxm _ (.head _) |> fun z => .tail _ (.tail _ (.tail _ (.tail _ (.tail _ (.tail _ (.tail _ (.tail _ (.tail _ z)))))))), x3, rfl, G.mr, G.mw, G.mkd, G.S.own (w := w) (fun _ h => nomatch h)⟩ G.S.hoff (fun q hq => List.mem_append.mpr (.inl hq)) (fun q hq => List.mem_append.mpr (.inr hq))
  · rintro m₁ nx h2 tk ⟨x', rfl, mr', mw', mk', S'⟩ F2 N2
    exact h h2 tk m₁ x' F2 N2 mr' mw' mk' (S'.bare.later (by rw [List.length_take]; exact Nat.min_le_left _ _))
end
end Mine
end
section
theorem Mine.freshT7a : True := by
  run_tac (do PyProof.Rows.walkLines.set (0, {}); PyProof.Rows.walkHit.set {}; PyProof.Rows.walkTop.set false; PyProof.Rows.walkStart.set 0; PyProof.Rows.walkLate.set false)
  trivial
open PySem PySem.W PySem.Calls PyProof.Rows
set_option Elab.async false
set_option maxRecDepth 100000
set_option maxHeartbeats 4000000
set_option linter.unusedVariables false
set_option linter.unusedSimpArgs false
namespace Mine
local macro_rules | `(tactic| walk_at "last subscriptTail") => `(tactic| (k_here; (with_reducible show wpAny _ _ (subscriptTail _ (PySem.Expr.Slice _ _ none _) (Value.ref _) (Value.ref _)) _ _ _); k_dflt (refine' slice_any ?F ?N ?l ?p ?q ?e ?_ ?s ?t ?z; (case F => k_asm); (case N => k_asm); (case l => k_mem); (case p => kmk_part); (case q => kmk_part); (case e => (first | exact pick_from (by omega) | exact pick_upto (by omega) | exact pick_neg (by first | omega | (refine Int.neg_neg_of_pos ?_; omega)))); (case s => with_unfolding_all rfl); (case t => kmk_pure); (case z => (first | assumption | omega | (simp only [List.length_cons, List.length_nil, List.length_append, List.length_take, List.length_drop]; omega)))); intro D' h' F' N' l1; (try k_lt l1); (try k_sweep)))
local macro_rules | `(tactic| walk_at "subscriptTail Name Slice ref ref") => `(tactic| (k_here; (with_reducible show wpAny _ _ (subscriptTail _ (PySem.Expr.Slice _ _ none _) (Value.ref _) (Value.ref _)) _ _ _); k_dflt (refine' slice_any ?F ?N ?l ?p ?q ?e ?_ ?s ?t ?z; (case F => k_asm); (case N => k_asm); (case l => k_mem); (case p => kmk_part); (case q => kmk_part); (case e => (first | exact pick_from (by omega) | exact pick_upto (by omega) | exact pick_neg (by first | omega | (refine Int.neg_neg_of_pos ?_; omega)))); (case s => with_unfolding_all rfl); (case t => kmk_pure); (case z => (first | assumption | omega | (simp only [List.length_cons, List.length_nil, List.length_append, List.length_take, List.length_drop]; omega)))); intro D' h' F' N' l1; (try k_lt l1); (try k_sweep)))
local macro_rules | `(tactic| walk_at "setItem ref") => `(tactic| (k_here; k_dflt (refine' setSlice_neg ?F ?N ?b ?ne ?U ?x ?z ?_; (case F => k_asm); (case N => k_asm); (case b => k_mem); (case ne => k_ne); (case U => k_upd); (case x => (first | omega | (refine Int.neg_neg_of_pos ?_; omega))); (case z => (first | assumption | omega | (simp only [List.length_cons, List.length_nil, List.length_append, List.length_take, List.length_drop]; omega)))); intro h' F' N'; (try k_sweep)))
local macro_rules | `(tactic| walk_at "call builtin:len") => `(tactic| (k_here; (with_reducible show wpAny _ _ (call (Value.builtin "len") [Value.ref _]) _ _ _); k_dflt (refine' len_any ?N ?m ?z ?_; (case N => k_asm); (case m => k_mem); (case z => (first | assumption | omega | (simp only [List.length_cons, List.length_nil, List.length_append, List.length_take, List.length_drop]; omega))))))
local macro_rules | `(tactic| walk_at "truthy ref") => `(tactic| (k_here; k_dflt (refine' truthy_any ?N ?m ?z ?_; (case N => k_asm); (case m => k_mem); (case z => (first | assumption | omega | (simp only [List.length_cons, List.length_nil, List.length_append, List.length_take, List.length_drop]; omega)))); (try simp only [List.isEmpty_cons, List.isEmpty_nil, Bool.not_false, Bool.not_true])))
local macro_rules | `(tactic| walk_at "call builtin:list.pop") => `(tactic| (k_here; k_dflt (first | (refine' pop_last ?F ?N ?U ?z ?_; (case F => k_asm); (case N => k_asm); (case U => k_upd); (case z => (first | assumption | omega | (simp only [List.length_cons, List.length_nil, List.length_append, List.length_take, List.length_drop]; omega)))) | (refine' pop_first ?F ?N ?U ?z ?_; (case F => k_asm); (case N => k_asm); (case U => k_upd); (case z => (first | assumption | omega | (simp only [List.length_cons, List.length_nil, List.length_append, List.length_take, List.length_drop]; omega))))); intro h' F' N'; (try k_sweep)))
local macro_rules | `(tactic| walk_at "pyReprObj str") => `(tactic| (refine pyReprObj_str (hx := ?hx) ?_; (case hx => (rw [PySem.sizeLine_eq]; omega))))
local macro_rules | `(tactic| walk_at "compareOp NotEq str str") => `(tactic| first | refine ne_strs_true (by assumption) ?_ | refine ne_strs_false ?_)
local macro_rules | `(tactic| walk_at "SrcLP") => `(tactic| (k_here; k_dflt (refine LCp.SrcLP.ledger (by rfl) (by k_asm) (by k_asm) (by k_mem) (by (simp only [List.size_toArray, PySem.sizeLine_eq]; omega)) ?_; intro g'; (rename Secs _ _ _ => hsec'); refine rest_snd (by rfl) (by rfl) (by decide) (.inr ⟨_, by k_mem, rfl, _, rfl⟩) _ _ 0 [] (hsec'.mono (fun p hp => (by simp only [List.mem_cons]; first | exact hp | exact .inr hp | exact .inr (.inr hp) | exact .inr (.inr (.inr hp)) | exact .inr (.inr (.inr (.inr hp))) | exact .inr (.inr (.inr (.inr (.inr hp))))))) (fun j v hj => by simpa using hj) ?_); intro D' h' tk' F' N' off'; (try simp only [LCg.Off1] at off')))
local macro_rules | `(tactic| walk_at "call builtin:len") => `(tactic| (k_here; (with_reducible show wpAny _ _ (call (Value.builtin "len") [Value.ref _]) _ _ _); k_dflt (refine' len_ba_K ?N ?m ?_; (case N => k_asm); (case m => k_mem))))
local macro_rules | `(tactic| walk_at "compareOp In int bytes") => `(tactic| (k_here; refine in_bytes_true (by decide +kernel) (by decide +kernel) (by decide +kernel) ?_))
local macro_rules | `(tactic| walk_at "truthy bytes") => `(tactic| (k_here; refine truthy_b0 ?_))
local macro_rules | `(tactic| walk_at "UnrEnd") => `(tactic| (k_here; k_dflt (refine UnrEnd.intro (by assumption) (by assumption) _ (fun p hp => hp) (my_off (by assumption)) ?_)))
local macro_rules | `(tactic| walk_at "exec While UnaryOp cons nil") => `(tactic| (k_here; k_dflt (refine whl_start 4 ?_)))
local macro_rules | `(tactic| walk_at "subscriptTail Name Name ref int") => `(tactic| (k_here; (with_reducible show wpAny _ _ (subscriptTail _ _ (Value.ref _) (Value.int _ _)) _ _ _); k_dflt (refine' item_any ?N ?m ?x ?a ?z ?s ?_; (case N => k_asm); (case m => k_mem); (case x => assumption); (case a => first | assumption | omega); (case z => (first | assumption | omega | (simp only [List.length_cons, List.length_nil, List.length_append, List.length_take, List.length_drop]; omega))); (case s => with_unfolding_all rfl))))
local macro_rules | `(tactic| walk_at "subscriptTail Name BinOp ref int") => `(tactic| (k_here; (with_reducible show wpAny _ _ (subscriptTail _ _ (Value.ref _) (Value.int _ _)) _ _ _); k_dflt (refine' item_any ?N ?m ?x ?a ?z ?s ?_; (case N => k_asm); (case m => k_mem); (case x => assumption); (case a => first | assumption | omega); (case z => (first | assumption | omega | (simp only [List.length_cons, List.length_nil, List.length_append, List.length_take, List.length_drop]; omega))); (case s => with_unfolding_all rfl))))
local macro_rules | `(tactic| walk_at "call ref") => `(tactic| (k_here; (with_reducible show wpAny _ _ (call (Value.ref 1642) [Value.ref _] []) _ _ _); k_dflt (refine' beginU (nt := ?nt) ?B ?F ?X ?T ?N ?m ?s ?z ?j ?t ?M ?_; (case B => assumption); (case F => k_asm); (case X => assumption); (case T => assumption); (case N => k_asm); (case m => k_mem); (case z => (first | assumption | omega | (simp only [List.length_cons, List.length_nil, List.length_append, List.length_take, List.length_drop]; omega))); (case j => assumption); (case t => assumption); (case M => assumption); (case s => (intro p hp; simp only [List.mem_cons, hp, or_true]))); intro h' tk' t' F' N'))
local macro_rules | `(tactic| k_all) => `(tactic| assumption)
local macro_rules | `(tactic| k_ne) => `(tactic| (refine neN ?_; (try dsimp only); first | (refine Off.l (by assumption) ?_; k_memK; done) | (refine Off.r (by assumption) ?_; k_memK; done) | fail))
local macro_rules | `(tactic| walk_at "call ref") => `(tactic| (k_here; (with_reducible show wpAny _ _ (call (Value.ref 1333) _ []) _ _ _); k_dflt (refine' popallU ?zzB ?zzF ?zzX ?zzT ?zzN ?zzm1 ?zzU ?zzc ?_; (case zzB => assumption); (case zzF => k_asm); (case zzX => assumption); (case zzT => assumption); (case zzN => k_asm); (case zzm1 => k_mem); (case zzU => k_updF); (case zzc => assumption)); intro h' tk' A1 F' N' l1; (try k_lt l1); (try dsimp only at N')))
local macro_rules | `(tactic| walk_at "compareOp NotEq ref ref") => `(tactic| (k_here; (with_reducible show wpAny _ _ (compareOp CmpOp.NotEq (Value.ref _) (Value.ref _)) _ _ _); k_dflt (refine' ne_same_list ?N ?a ?b ?u ?_; (case N => k_asm); (case a => k_mem); (case b => k_mem); (case u => exact Nat.le_of_ble_eq_true rfl))))
local macro_rules | `(tactic| walk_at "call ref") => `(tactic| (k_here; (with_reducible show wpAny _ _ (call (Value.ref 1649) _ []) _ _ _); k_dflt (refine' endedNoneU ?zzB ?zzF ?zzX ?zzT ?zzN ?zzm1 ?zzm2 ?zzc ?zzr ?_; (case zzB => assumption); (case zzF => k_asm); (case zzX => assumption); (case zzT => assumption); (case zzN => k_asm); (case zzm1 => k_mem); (case zzm2 => k_mem); (case zzc => assumption); (case zzr => decide +kernel)); intro h' tk' F' N'; (try dsimp only at N')))
local macro_rules | `(tactic| walk_at "last subscriptTail") => `(tactic| (k_here; (with_reducible show wpAny _ _ (subscriptTail _ (PySem.Expr.Slice _ _ none _) (Value.ref _) (Value.ref _)) _ _ _); k_dflt (refine' slice_any ?F ?N ?l ?p ?q ?e ?_ ?s ?t ?z; (case F => k_asm); (case N => k_asm); (case l => k_mem); (case p => kmk_part); (case q => kmk_part); (case e => first | exact (pick_from (by omega)).trans (congrArg List.toArray (by assumption)) | exact (pick_upto (by first | omega | assumption)).trans (congrArg List.toArray (by assumption))); (case s => with_unfolding_all rfl); (case t => kmk_pure); (case z => (first | assumption | omega | (simp only [List.length_cons, List.length_nil, List.length_append, List.length_take, List.length_drop]; omega)))); intro D' h' F' N' l1; (try k_lt l1); (try k_sweep)))
local macro_rules | `(tactic| walk_at "subscriptTail Name Slice ref ref") => `(tactic| (k_here; (with_reducible show wpAny _ _ (subscriptTail _ (PySem.Expr.Slice _ _ none _) (Value.ref _) (Value.ref _)) _ _ _); k_dflt (refine' slice_any ?F ?N ?l ?p ?q ?e ?_ ?s ?t ?z; (case F => k_asm); (case N => k_asm); (case l => k_mem); (case p => kmk_part); (case q => kmk_part); (case e => first | exact (pick_from (by omega)).trans (congrArg List.toArray (by assumption)) | exact (pick_upto (by first | omega | assumption)).trans (congrArg List.toArray (by assumption))); (case s => with_unfolding_all rfl); (case t => kmk_pure); (case z => (first | assumption | omega | (simp only [List.length_cons, List.length_nil, List.length_append, List.length_take, List.length_drop]; omega)))); intro D' h' F' N' l1; (try k_lt l1); (try k_sweep)))
section
variable {w : World} {E : Value → Shared → Prop} {Q : Flow → Shared → Prop} {s : Shared} {h₀ : Heap} {L fa : Addr} {cd : Value} {u : Str → Option Value}
  {p : Program} {loose : List Str} {mean : ExcName → Option Value} {mg mb : Str → Option Value} {tl : List (Addr × Obj)} {RW KD WT P D CX CU RS : Addr} {row cur row1 wvs cs : List Value} {nR nK nW nX nC nS j : Nat} {d : PD} {oCE : Obj} {ta td0 tp tT : Tok} {kT : Int}
theorem two0 (B : Below callerA h₀ [] h₀) (X : (K w.params).In h₀) (T : Top p loose mean mg mb h₀) (F : Fr h₀ L s.heap (fun y => if y = Str.ofString "turn" then some (Value.int kT tT) else if y = Str.ofString "row" then some (Value.ref RW) else if y = Str.ofString "waiting" then some (Value.ref WT) else if y = Str.ofString "kinds" then some (Value.ref KD) else u y))
    (N : News h₀ L s.heap ((RW, listOf row.toArray nR) :: (KD, listOf #[.str (Str.ofString "a") ta, .str (Str.ofString "d") td0, .str (Str.ofString "p") tp] nK) :: (WT, listOf wvs.toArray nW) :: (P, instObj 1367 D) :: (D, dictOf (d.es w) 13) :: (CX, listOf cs.toArray nX) :: (CU, listOf cur.toArray nC) :: (RS, listOf wvs.toArray nS) :: (L + 1, oCE) :: tl)) (hce : oCE.data = .cell (some (.ref P))) (hlen : row.length ≤ 100) (hr1 : row1.length ≤ 100) (hwl : wvs.length ≤ 100) (hcl : cur.length ≤ 100)
    (hj : j ≤ row.length) (hT : ∀ i v, j ≤ i → row[i]? = some v → Thing tl v) (hM : j = 0 ∨ ∃ M x y k, row[j - 1]? = some (.ref M) ∧ (M, ({ cls := .type "tuple", data := .seq #[.none, x, y] k } : Obj)) ∈ tl)
    (hcu : d.curstack = .ref CU) (hd1 : row.drop ((j : Int) - 1 + 1).toNat = cur) (hd2 : row.take ((j : Int) - 1 + 1).toNat = row1) (hct : d.curtype = .none) (hbg : (j : Int) - 1 < 0)
    (oD : Off D [RW, KD, WT, P, CX, CU, RS, L + 1]) (tD : ∀ p ∈ tl, p.1 ≠ D)
    (h : ∀ h' tk m' RW' A1, Fr h₀ L h' m' → m' (Str.ofString "row") = some (.ref RW') → m' (Str.ofString "waiting") = some (.ref WT) → m' (Str.ofString "kinds") = some (.ref KD) → News h₀ L h' ((RW', listOf row1.toArray 0) :: (A1, listOf #[] 0) :: (KD, listOf #[.str (Str.ofString "a") ta, .str (Str.ofString "d") td0, .str (Str.ofString "p") tp] nK) :: (WT, listOf wvs.toArray nW) :: (P, instObj 1367 D) :: (D, dictOf (PD.es w { d with curstack := .ref A1 }) 13) :: (CX, listOf cs.toArray nX) :: (CU, listOf cur.toArray nC) :: (RS, listOf wvs.toArray nS) :: (L + 1, oCE) :: tl) → (@Ne Nat KD RW' ∧ @Ne Nat WT RW' ∧ @Ne Nat CX RW' ∧ @Ne Nat CU RW' ∧ @Ne Nat RS RW' ∧ @Ne Nat RW RW' ∧ @Ne Nat A1 RW') → (∀ p ∈ tl, p.1 ≠ RW') → (@Ne Nat KD A1 ∧ @Ne Nat WT A1 ∧ @Ne Nat CX A1 ∧ @Ne Nat CU A1 ∧ @Ne Nat RS A1 ∧ @Ne Nat RW A1) → (∀ p ∈ tl, p.1 ≠ A1) → Q .brk { s with heap := h', toks := tk }) :
    wpAny (model PySem.Challenge.rw_ae5031_04.row.prog w) (callerA.deeper (envOfC (Str.ofString "law") lawScope L fa cd)) (execs forBody2 (envOfC (Str.ofString "law") lawScope L fa cd)) Q E s := by
  revert X
  k_fill
  intro X
  unfold forBody2
  k_steps
  show Q .brk _
  refine' h _ _ _ _ _ ?zF ?zr ?zw ?zk ?zN ?f0 ?t0 ?f1 ?t1
  (case zF => assumption)
  (case zr => first | rfl | decide)
  (case zw => first | rfl | decide)
  (case zk => first | rfl | decide)
  (case zN => (refine news_sub (by assumption) ?_; (repeat' (first | exact fun p hp => hp | (refine sub_cons (by k_memK) ?_) | (refine sub_tail ?_)))))
  (case f0 => (refine ⟨?_, ?_, ?_, ?_, ?_, ?_, ?_⟩ <;> k_ne))
  (case t0 => k_all)
  (case f1 => (refine ⟨?_, ?_, ?_, ?_, ?_, ?_⟩ <;> k_ne))
  (case t1 => k_all)
end
end Mine
end
section
theorem Mine.freshT7b : True := by
  run_tac (do PyProof.Rows.walkLines.set (0, {}); PyProof.Rows.walkHit.set {}; PyProof.Rows.walkTop.set false; PyProof.Rows.walkStart.set 0; PyProof.Rows.walkLate.set false)
  trivial
open PySem PySem.W PySem.Calls PyProof.Rows
set_option Elab.async false
set_option maxRecDepth 100000
set_option maxHeartbeats 4000000
set_option linter.unusedVariables false
set_option linter.unusedSimpArgs false
namespace Mine
local macro_rules | `(tactic| walk_at "last subscriptTail") => `(tactic| (k_here; (with_reducible show wpAny _ _ (subscriptTail _ (PySem.Expr.Slice _ _ none _) (Value.ref _) (Value.ref _)) _ _ _); k_dflt (refine' slice_any ?F ?N ?l ?p ?q ?e ?_ ?s ?t ?z; (case F => k_asm); (case N => k_asm); (case l => k_mem); (case p => kmk_part); (case q => kmk_part); (case e => (first | exact pick_from (by omega) | exact pick_upto (by omega) | exact pick_neg (by first | omega | (refine Int.neg_neg_of_pos ?_; omega)))); (case s => with_unfolding_all rfl); (case t => kmk_pure); (case z => (first | assumption | omega | (simp only [List.length_cons, List.length_nil, List.length_append, List.length_take, List.length_drop]; omega)))); intro D' h' F' N' l1; (try k_lt l1); (try k_sweep)))
local macro_rules | `(tactic| walk_at "subscriptTail Name Slice ref ref") => `(tactic| (k_here; (with_reducible show wpAny _ _ (subscriptTail _ (PySem.Expr.Slice _ _ none _) (Value.ref _) (Value.ref _)) _ _ _); k_dflt (refine' slice_any ?F ?N ?l ?p ?q ?e ?_ ?s ?t ?z; (case F => k_asm); (case N => k_asm); (case l => k_mem); (case p => kmk_part); (case q => kmk_part); (case e => (first | exact pick_from (by omega) | exact pick_upto (by omega) | exact pick_neg (by first | omega | (refine Int.neg_neg_of_pos ?_; omega)))); (case s => with_unfolding_all rfl); (case t => kmk_pure); (case z => (first | assumption | omega | (simp only [List.length_cons, List.length_nil, List.length_append, List.length_take, List.length_drop]; omega)))); intro D' h' F' N' l1; (try k_lt l1); (try k_sweep)))
local macro_rules | `(tactic| walk_at "setItem ref") => `(tactic| (k_here; k_dflt (refine' setSlice_neg ?F ?N ?b ?ne ?U ?x ?z ?_; (case F => k_asm); (case N => k_asm); (case b => k_mem); (case ne => k_ne); (case U => k_upd); (case x => (first | omega | (refine Int.neg_neg_of_pos ?_; omega))); (case z => (first | assumption | omega | (simp only [List.length_cons, List.length_nil, List.length_append, List.length_take, List.length_drop]; omega)))); intro h' F' N'; (try k_sweep)))
local macro_rules | `(tactic| walk_at "call builtin:len") => `(tactic| (k_here; (with_reducible show wpAny _ _ (call (Value.builtin "len") [Value.ref _]) _ _ _); k_dflt (refine' len_any ?N ?m ?z ?_; (case N => k_asm); (case m => k_mem); (case z => (first | assumption | omega | (simp only [List.length_cons, List.length_nil, List.length_append, List.length_take, List.length_drop]; omega))))))
local macro_rules | `(tactic| walk_at "truthy ref") => `(tactic| (k_here; k_dflt (refine' truthy_any ?N ?m ?z ?_; (case N => k_asm); (case m => k_mem); (case z => (first | assumption | omega | (simp only [List.length_cons, List.length_nil, List.length_append, List.length_take, List.length_drop]; omega)))); (try simp only [List.isEmpty_cons, List.isEmpty_nil, Bool.not_false, Bool.not_true])))
local macro_rules | `(tactic| walk_at "call builtin:list.pop") => `(tactic| (k_here; k_dflt (first | (refine' pop_last ?F ?N ?U ?z ?_; (case F => k_asm); (case N => k_asm); (case U => k_upd); (case z => (first | assumption | omega | (simp only [List.length_cons, List.length_nil, List.length_append, List.length_take, List.length_drop]; omega)))) | (refine' pop_first ?F ?N ?U ?z ?_; (case F => k_asm); (case N => k_asm); (case U => k_upd); (case z => (first | assumption | omega | (simp only [List.length_cons, List.length_nil, List.length_append, List.length_take, List.length_drop]; omega))))); intro h' F' N'; (try k_sweep)))
local macro_rules | `(tactic| walk_at "pyReprObj str") => `(tactic| (refine pyReprObj_str (hx := ?hx) ?_; (case hx => (rw [PySem.sizeLine_eq]; omega))))
local macro_rules | `(tactic| walk_at "compareOp NotEq str str") => `(tactic| first | refine ne_strs_true (by assumption) ?_ | refine ne_strs_false ?_)
local macro_rules | `(tactic| walk_at "SrcLP") => `(tactic| (k_here; k_dflt (refine LCp.SrcLP.ledger (by rfl) (by k_asm) (by k_asm) (by k_mem) (by (simp only [List.size_toArray, PySem.sizeLine_eq]; omega)) ?_; intro g'; (rename Secs _ _ _ => hsec'); refine rest_snd (by rfl) (by rfl) (by decide) (.inr ⟨_, by k_mem, rfl, _, rfl⟩) _ _ 0 [] (hsec'.mono (fun p hp => (by simp only [List.mem_cons]; first | exact hp | exact .inr hp | exact .inr (.inr hp) | exact .inr (.inr (.inr hp)) | exact .inr (.inr (.inr (.inr hp))) | exact .inr (.inr (.inr (.inr (.inr hp))))))) (fun j v hj => by simpa using hj) ?_); intro D' h' tk' F' N' off'; (try simp only [LCg.Off1] at off')))
local macro_rules | `(tactic| walk_at "call builtin:len") => `(tactic| (k_here; (with_reducible show wpAny _ _ (call (Value.builtin "len") [Value.ref _]) _ _ _); k_dflt (refine' len_ba_K ?N ?m ?_; (case N => k_asm); (case m => k_mem))))
local macro_rules | `(tactic| walk_at "compareOp In int bytes") => `(tactic| (k_here; refine in_bytes_true (by decide +kernel) (by decide +kernel) (by decide +kernel) ?_))
local macro_rules | `(tactic| walk_at "truthy bytes") => `(tactic| (k_here; refine truthy_b0 ?_))
local macro_rules | `(tactic| walk_at "UnrEnd") => `(tactic| (k_here; k_dflt (refine UnrEnd.intro (by assumption) (by assumption) _ (fun p hp => hp) (my_off (by assumption)) ?_)))
local macro_rules | `(tactic| walk_at "exec While UnaryOp cons nil") => `(tactic| (k_here; k_dflt (refine whl_start 4 ?_)))
local macro_rules | `(tactic| walk_at "subscriptTail Name Name ref int") => `(tactic| (k_here; (with_reducible show wpAny _ _ (subscriptTail _ _ (Value.ref _) (Value.int _ _)) _ _ _); k_dflt (refine' item_any ?N ?m ?x ?a ?z ?s ?_; (case N => k_asm); (case m => k_mem); (case x => assumption); (case a => first | assumption | omega); (case z => (first | assumption | omega | (simp only [List.length_cons, List.length_nil, List.length_append, List.length_take, List.length_drop]; omega))); (case s => with_unfolding_all rfl))))
local macro_rules | `(tactic| walk_at "subscriptTail Name BinOp ref int") => `(tactic| (k_here; (with_reducible show wpAny _ _ (subscriptTail _ _ (Value.ref _) (Value.int _ _)) _ _ _); k_dflt (refine' item_any ?N ?m ?x ?a ?z ?s ?_; (case N => k_asm); (case m => k_mem); (case x => assumption); (case a => first | assumption | omega); (case z => (first | assumption | omega | (simp only [List.length_cons, List.length_nil, List.length_append, List.length_take, List.length_drop]; omega))); (case s => with_unfolding_all rfl))))
local macro_rules | `(tactic| walk_at "call ref") => `(tactic| (k_here; (with_reducible show wpAny _ _ (call (Value.ref 1642) [Value.ref _] []) _ _ _); k_dflt (refine' beginU (nt := ?nt) ?B ?F ?X ?T ?N ?m ?s ?z ?j ?t ?M ?_; (case B => assumption); (case F => k_asm); (case X => assumption); (case T => assumption); (case N => k_asm); (case m => k_mem); (case z => (first | assumption | omega | (simp only [List.length_cons, List.length_nil, List.length_append, List.length_take, List.length_drop]; omega))); (case j => assumption); (case t => assumption); (case M => assumption); (case s => (intro p hp; simp only [List.mem_cons, hp, or_true]))); intro h' tk' t' F' N'))
local macro_rules | `(tactic| k_all) => `(tactic| assumption)
local macro_rules | `(tactic| k_ne) => `(tactic| (refine neN ?_; (try dsimp only); first | (refine Off.l (by assumption) ?_; k_memK; done) | (refine Off.r (by assumption) ?_; k_memK; done) | fail))
local macro_rules | `(tactic| walk_at "call ref") => `(tactic| (k_here; (with_reducible show wpAny _ _ (call (Value.ref 1333) _ []) _ _ _); k_dflt (refine' popallU ?zzB ?zzF ?zzX ?zzT ?zzN ?zzm1 ?zzU ?zzc ?_; (case zzB => assumption); (case zzF => k_asm); (case zzX => assumption); (case zzT => assumption); (case zzN => k_asm); (case zzm1 => k_mem); (case zzU => k_updF); (case zzc => assumption)); intro h' tk' A1 F' N' l1; (try k_lt l1); (try dsimp only at N')))
local macro_rules | `(tactic| walk_at "compareOp NotEq ref ref") => `(tactic| (k_here; (with_reducible show wpAny _ _ (compareOp CmpOp.NotEq (Value.ref _) (Value.ref _)) _ _ _); k_dflt (refine' ne_same_list ?N ?a ?b ?u ?_; (case N => k_asm); (case a => k_mem); (case b => k_mem); (case u => exact Nat.le_of_ble_eq_true rfl))))
local macro_rules | `(tactic| walk_at "call ref") => `(tactic| (k_here; (with_reducible show wpAny _ _ (call (Value.ref 1649) _ []) _ _ _); k_dflt (refine' endedNoU ?zzB ?zzF ?zzX ?zzT ?zzN ?zzm1 ?zzm2 ?zzc ?zzk ?zzr ?zzr2 ?_; (case zzB => assumption); (case zzF => k_asm); (case zzX => assumption); (case zzT => assumption); (case zzN => k_asm); (case zzm1 => k_mem); (case zzm2 => k_mem); (case zzc => assumption); (case zzk => assumption); (case zzr => decide +kernel); (case zzr2 => assumption)); intro h' tk' F' N'; (try dsimp only at N')))
local macro_rules | `(tactic| walk_at "call ref") => `(tactic| (k_here; (with_reducible show wpAny _ _ (call (Value.ref 1649) _ []) _ _ _); k_dflt (refine' endedOkU ?zzB ?zzF ?zzX ?zzT ?zzN ?zzm1 ?zzm4 ?zzm5 ?zzU ?zzU2 ?zzc1 ?zzc2 ?zzc3 ?zzn ?zzct ?zzs ?zzz ?zzz2 ?_; (case zzB => assumption); (case zzF => k_asm); (case zzX => assumption); (case zzT => assumption); (case zzN => k_asm); (case zzm1 => k_mem); (case zzU => k_updF); (case zzc1 => rfl); (case zzc2 => assumption); (case zzc3 => assumption); (case zzU2 => (intro o9; k_updF)); (case zzm4 => k_mem); (case zzm5 => k_mem); (case zzn => k_ne); (case zzct => assumption); (case zzs => exact Secs.nil); (case zzz => (first | assumption | omega | (simp only [List.length_cons, List.length_nil, List.length_append, List.length_take, List.length_drop]; omega))); (case zzz2 => (first | assumption | omega | (simp only [List.length_cons, List.length_nil, List.length_append, List.length_take, List.length_drop]; omega)))); intro h' tk' T9 O9 F' N' l1 l2 l3; (try k_lt l3); (replace l2 := ltN l2); (try dsimp only at N')))
local macro_rules | `(tactic| walk_at "compareOp NotEq ref ref") => `(tactic| (k_here; (with_reducible show wpAny _ _ (compareOp CmpOp.NotEq (Value.ref _) (Value.ref _)) _ _ _); k_dflt (refine' ne_pairL ?zN ?za ?zb ?zc ?zd ?zf ?ze ?zu ?_; (case zN => k_asm); (case za => k_mem); (case zb => k_mem); (case zc => k_mem); (case zd => k_mem); (case zf => exact rfl); (case ze => k_ne); (case zu => exact Nat.le_of_ble_eq_true rfl))))
local macro_rules | `(tactic| walk_at "last subscriptTail") => `(tactic| (k_here; (with_reducible show wpAny _ _ (subscriptTail _ (PySem.Expr.Slice _ _ none _) (Value.ref _) (Value.ref _)) _ _ _); k_dflt (refine' slice_any ?F ?N ?l ?p ?q ?e ?_ ?s ?t ?z; (case F => k_asm); (case N => k_asm); (case l => k_mem); (case p => kmk_part); (case q => kmk_part); (case e => first | exact (pick_from (by omega)).trans (congrArg List.toArray (by assumption)) | exact (pick_upto (by first | omega | assumption)).trans (congrArg List.toArray (by assumption))); (case s => with_unfolding_all rfl); (case t => kmk_pure); (case z => (first | assumption | omega | (simp only [List.length_cons, List.length_nil, List.length_append, List.length_take, List.length_drop]; omega)))); intro D' h' F' N' l1; (try k_lt l1); (try k_sweep)))
local macro_rules | `(tactic| walk_at "subscriptTail Name Slice ref ref") => `(tactic| (k_here; (with_reducible show wpAny _ _ (subscriptTail _ (PySem.Expr.Slice _ _ none _) (Value.ref _) (Value.ref _)) _ _ _); k_dflt (refine' slice_any ?F ?N ?l ?p ?q ?e ?_ ?s ?t ?z; (case F => k_asm); (case N => k_asm); (case l => k_mem); (case p => kmk_part); (case q => kmk_part); (case e => first | exact (pick_from (by omega)).trans (congrArg List.toArray (by assumption)) | exact (pick_upto (by first | omega | assumption)).trans (congrArg List.toArray (by assumption))); (case s => with_unfolding_all rfl); (case t => kmk_pure); (case z => (first | assumption | omega | (simp only [List.length_cons, List.length_nil, List.length_append, List.length_take, List.length_drop]; omega)))); intro D' h' F' N' l1; (try k_lt l1); (try k_sweep)))
local macro_rules | `(tactic| k_ne) => `(tactic| (refine neN ?_; (try dsimp only); first | (refine' OffN.r ?zzh ?zzm; (case zzh => assumption); (case zzm => k_mem); done) | (refine' OffN.l ?zzh ?zzm; (case zzh => assumption); (case zzm => k_mem); done) | fail))
section
variable {w : World} {E : Value → Shared → Prop} {Q : Flow → Shared → Prop} {s : Shared} {h₀ : Heap} {L fa : Addr} {cd : Value} {u : Str → Option Value}
  {p : Program} {loose : List Str} {mean : ExcName → Option Value} {mg mb : Str → Option Value} {tl : List (Addr × Obj)} {RW KD WT P D CX CU RS : Addr} {row cur row1 wvs cs : List Value} {nR nK nW nX nC nS j : Nat} {d : PD} {oCE : Obj} {ta td0 tp tT : Tok} {kT : Int}
theorem two1 {MA CA LA : Addr} {lk : Str} {ltk ltk2 tm tq : Tok} {pos : Int} {km nL : Nat} {items rowo : List Value} {ct : Value} (B : Below callerA h₀ [] h₀) (X : (K w.params).In h₀) (T : Top p loose mean mg mb h₀) (F : Fr h₀ L s.heap (fun y => if y = Str.ofString "turn" then some (Value.int kT tT) else if y = Str.ofString "row" then some (Value.ref RW) else if y = Str.ofString "waiting" then some (Value.ref WT) else if y = Str.ofString "kinds" then some (Value.ref KD) else u y))
    (N : News h₀ L s.heap ((LA, listOf items.toArray nL) :: (CA, ({ cls := .type "tuple", data := .seq #[Value.int pos tq, ct, Value.ref LA] 0 } : Obj)) :: (MA, ({ cls := .type "tuple", data := .seq #[Value.none, .int pos tm, .str lk ltk] km } : Obj)) :: (RW, listOf row.toArray nR) :: (KD, listOf #[.str (Str.ofString "a") ta, .str (Str.ofString "d") td0, .str (Str.ofString "p") tp] nK) :: (WT, listOf wvs.toArray nW) :: (P, instObj 1367 D) :: (D, dictOf (d.es w) 13) :: (CX, listOf (cs ++ [Value.ref CA]).toArray nX) :: (CU, listOf cur.toArray nC) :: (RS, listOf wvs.toArray nS) :: (L + 1, oCE) :: tl)) (hce : oCE.data = .cell (some (.ref P))) (hlen : row.length ≤ 100) (hr1 : row1.length ≤ 100) (hwl : wvs.length ≤ 100) (hcl : cur.length ≤ 100)
    (hj : j ≤ row.length) (hT : ∀ i v, j ≤ i → row[i]? = some v → Thing tl v) (hM : j = 0 ∨ ∃ M x y k, row[j - 1]? = some (.ref M) ∧ (M, ({ cls := .type "tuple", data := .seq #[.none, x, y] k } : Obj)) ∈ tl)
    (hcu : d.curstack = .ref CU) (hd1 : row.drop ((j : Int) - 1 + 1).toNat = cur) (hd2 : row.take ((j : Int) - 1 + 1).toNat = row1) (hct : d.curtype = .str lk ltk2) (hcx : d.context = .ref CX) (hctv : ct = .none ∨ ∃ k t, ct = .str k t) (hne : lk ≠ Str.ofString "x") (hkr : (reprText lk).length ≤ 100) (hbg : 0 ≤ (j : Int) - 1) (hxM : row1[((j : Int) - 1).toNat]? = some (Value.ref MA)) (hd3 : row1.take ((j : Int) - 1).toNat = rowo) (hro : rowo.length ≤ 100) (hsl : cs.length ≤ 100) (oMA : Off MA [D, CX]) (oCA : Off CA [D, CX]) (oLA : Off LA [D, CX])
    (oD : Off D [RW, KD, WT, P, CX, CU, RS, L + 1]) (tD : ∀ p ∈ tl, p.1 ≠ D) (oCX : Off CX [RW, KD, WT, P, D, CU, RS, L + 1]) (tCX : ∀ p ∈ tl, p.1 ≠ CX)
    (h : ∀ h' tk m' RW', Fr h₀ L h' m' → m' (Str.ofString "row") = some (.ref RW') → m' (Str.ofString "waiting") = some (.ref WT) → m' (Str.ofString "kinds") = some (.ref KD) → News h₀ L h' ((RW', listOf rowo.toArray 0) :: (LA, listOf items.toArray nL) :: (KD, listOf #[.str (Str.ofString "a") ta, .str (Str.ofString "d") td0, .str (Str.ofString "p") tp] nK) :: (WT, listOf wvs.toArray nW) :: (P, instObj 1367 D) :: (D, dictOf (PD.es w { d with curtype := ct, curstack := .ref LA }) 13) :: (CX, listOf cs.toArray (nX + 1)) :: (RS, listOf wvs.toArray nS) :: (L + 1, oCE) :: tl) → (@Ne Nat KD RW' ∧ @Ne Nat WT RW' ∧ @Ne Nat CX RW' ∧ @Ne Nat RS RW' ∧ @Ne Nat LA RW') → (∀ p ∈ tl, p.1 ≠ RW') → Q .next { s with heap := h', toks := tk }) :
    wpAny (model PySem.Challenge.rw_ae5031_04.row.prog w) (callerA.deeper (envOfC (Str.ofString "law") lawScope L fa cd)) (execs forBody2 (envOfC (Str.ofString "law") lawScope L fa cd)) Q E s := by
  revert X
  k_fill
  intro X
  unfold forBody2
  k_steps
  refine' h _ _ _ _ ?zF ?zr ?zw ?zk ?zN ?y1 ?y2
  (case zF => assumption)
  (case zr => first | rfl | decide)
  (case zw => first | rfl | decide)
  (case zk => first | rfl | decide)
  (case zN => (refine news_sub (by assumption) ?_; (repeat' (first | exact fun p hp => hp | (refine sub_cons (by k_memK) ?_) | (refine sub_tail ?_)))))
  (case y1 => (refine ⟨?_, ?_, ?_, ?_, ?_⟩ <;> k_ne))
  (case y2 => k_all)
end
end Mine
end
section
theorem Mine.freshT8 : True := by
  run_tac (do PyProof.Rows.walkLines.set (0, {}); PyProof.Rows.walkHit.set {}; PyProof.Rows.walkTop.set false; PyProof.Rows.walkStart.set 0; PyProof.Rows.walkLate.set false)
  trivial
open PySem PySem.W PySem.Calls PyProof.Rows
set_option Elab.async false
set_option maxRecDepth 100000
set_option maxHeartbeats 400000
set_option linter.unusedVariables false
set_option linter.unusedSimpArgs false
namespace Mine
open PySem.Spec
section
variable {w : World} {E : Value → Shared → Prop} {Q : Flow → Shared → Prop} {s : Shared} {h₀ : Heap} {L fa : Addr} {cd : Value} {u : Str → Option Value}
  {p : Program} {loose : List Str} {mean : ExcName → Option Value} {mg mb : Str → Option Value} {tl : List (Addr × Obj)} {RW KD WT P D CX CU RS : Addr} {ls : List Lev} {cur wvs : List Value} {nR nK nW nX nC nS : Nat} {d : PD} {oCE : Obj} {ta td0 tp tT : Tok} {kT : Int}
theorem stepTwo0 {fx fe ow : List (Addr × Obj)} {d₀ : PD} {i : Nat} (B : Below callerA h₀ [] h₀) (X : (K w.params).In h₀) (T : Top p loose mean mg mb h₀) (S : Snd L oCE fx fe d₀ ⟨RW, KD, WT, P, D, CX, CU, RS, [], cur, wvs, nR, nK, nW, nX, nC, nS, d, ta, td0, tp, tl⟩ ow i) (hi : i < 25) (F : Fr h₀ L s.heap (fun y => if y = Str.ofString "turn" then some (Value.int kT tT) else if y = Str.ofString "row" then some (Value.ref RW) else if y = Str.ofString "waiting" then some (Value.ref WT) else if y = Str.ofString "kinds" then some (Value.ref KD) else u y))
    (N : News h₀ L s.heap ((RW, listOf (rowOf [] cur).toArray nR) :: (KD, listOf #[.str (Str.ofString "a") ta, .str (Str.ofString "d") td0, .str (Str.ofString "p") tp] nK) :: (WT, listOf wvs.toArray nW) :: (P, instObj 1367 D) :: (D, dictOf (d.es w) 13) :: (CX, listOf (ctxOf []).toArray nX) :: (CU, listOf cur.toArray nC) :: (RS, listOf wvs.toArray nS) :: (L + 1, oCE) :: (tl ++ ow))) 
    (h : ∀ h' tk m' x', Good w L oCE fx fe d₀ x' h₀ h' m' ow i → Q .brk { s with heap := h', toks := tk }) :
    wpAny (model PySem.Challenge.rw_ae5031_04.row.prog w) (callerA.deeper (envOfC (Str.ofString "law") lawScope L fa cd)) (execs forBody2 (envOfC (Str.ofString "law") lawScope L fa cd)) Q E s := by
  obtain ⟨hce, hoff, hcu, hcx, hrs, hct, hlv, hll, htc, htw, n6, htlf, hlan, hfxm, hfxl, hef, hle1, hle2⟩ := S
  dsimp only at hce hoff hcu hcx hrs hct hlv hll htc htw n6 htlf hlan hfxm hfxl hef hle1 hle2
  obtain ⟨n1, n2, n3, n4, n5, n6, n7, n8, n9, n10, n11, n12, n13, n14, n15⟩ := n6
  have hlen : (rowOf [] cur).length ≤ 100 := by omega
  have hwl : ((wvs) : List Value).length ≤ 100 := Nat.le_trans hle2 (by omega)
  have hcl : cur.length ≤ 100 := Nat.le_trans (row_ge [] cur) hlen
  have hxl : (ctxOf []).length ≤ 100 := by rw [ctx_len]; exact Nat.le_trans (ls_le [] cur) hlen
  have oD : Off D [RW, KD, WT, P, CX, CU, RS, L + 1] := (off_con (ne_obj N (by k_mem) (by k_mem) dict_list) (off_con (ne_obj N (by k_mem) (by k_mem) dict_list) (off_con (ne_obj N (by k_mem) (by k_mem) dict_list) (off_con (ne_obj N (by k_mem) (by k_mem) inst_dict.symm) (off_con (ne_obj N (by k_mem) (by k_mem) dict_list) (off_con (ne_obj N (by k_mem) (by k_mem) dict_list) (off_con (ne_obj N (by k_mem) (by k_mem) dict_list) (off_con (ne_obj N (by k_mem) (by k_mem) (cell_dict hce).symm) (off_nil D)))))))))
  have tD : ∀ q ∈ tl ++ ow, q.1 ≠ D := fun q hq => (List.mem_append.mp hq).elim (fun h => (htlf q h).a3) (off_of hoff (by k_mem) q)
  have hd1 : (rowOf [] cur).drop (((begJ ([] : List Lev) : Nat) : Int) - 1 + 1).toNat = cur := row_drop [] cur
  have hd2 : (rowOf [] cur).take (((begJ ([] : List Lev) : Nat) : Int) - 1 + 1).toNat = rowOf [] [] := row_take [] cur
  obtain ⟨b1, b2, b3⟩ := beg_ok (nx := tl ++ ow) (hlv.mono fun q hq => List.mem_append.mpr (.inl hq)) (fun v hv => (htc v hv).mono fun q hq => List.mem_append.mpr (.inl hq))
  refine two0 (tl := tl ++ ow) (j := begJ []) B X T F N hce hlen (Nat.zero_le _) hwl hcl b1 b2 b3 hcu hd1 hd2 hct.nil_eq (by decide) oD tD ?_
  intro h' tk m' RW' A1 F2 mr2 mw2 mk2 N2 f0 t0 g0 t1
  obtain ⟨f1, f2, f3, f4, f5, f6, f7⟩ := f0
  obtain ⟨g1, g2, g3, g4, g5, g6⟩ := g0
  refine h _ _ _ ⟨RW', KD, WT, P, D, CX, A1, RS, [], [], wvs, 0, nK, nW, nX, 0, nS, { d with curstack := .ref A1 }, ta, td0, tp, tl⟩ ⟨F2, ?zN, mr2, mw2, mk2, hce, ?zoff, ?zcu, ?zcx, ?zrs, ?zct, ?zlv, ?zll, ?ztc, ?ztw, ?zsix, ?ztlf, ?zlan, ?zfxm, ?zfxl, ?zef, ?zle1, ?zle2⟩
  (case zN => (refine news_sub N2 ?_; simp only [Sd.led, List.cons_append]; (repeat' (first | exact fun q hq => hq | (refine sub_cons (by k_mem) ?_) | (refine sub_tail ?_)))))
  (case zoff => ((try simp only [List.map_cons]); (repeat' (refine off_cons ?_ ?_)); all_goals (first | exact off_of hoff (by k_mem) | exact (fun q hq => Nat.ne_of_lt (allNew_of xA q (List.mem_append.mpr (.inr hq)))) | exact (fun q hq => Nat.ne_of_lt (allNew_of yA q (List.mem_append.mpr (.inr hq)))) | (intro q hq; first | exact t0 q (List.mem_append.mpr (.inr hq)) | exact t1 q (List.mem_append.mpr (.inr hq))) | exact off_mono hoff (fun b hb => (by (repeat' (first | exact hb | refine List.Mem.tail _ ?_))))))) 
  (case zcu => first | exact hcu | rfl)
  (case zcx => first | exact hcx | rfl)
  (case zrs => first | exact hrs | rfl)
  (case zct => exact hct)
  (case zlv => exact hlv.mono fun q hq => hq)
  (case zll => exact fun q hq => (hll q hq))
  (case ztc => exact fun v hv => nomatch hv)
  (case ztw => exact fun v hv => (htw v hv).mono fun q hq => hq)
  (case zsix => (constructor <;> first | assumption | (apply Ne.symm; assumption)))
  (case ztlf => (intro q hq; (try simp only [List.mem_cons] at hq); rcases hq with hq <;> (dsimp only; first | (obtain ⟨z1, z2, z3, z4, z5, z6⟩ := htlf q hq; refine ⟨?_, ?_, ?_, ?_, ?_, ?_⟩ <;> first | assumption | exact t0 q (List.mem_append.mpr (.inl hq)) | exact t1 q (List.mem_append.mpr (.inl hq))) | (refine ⟨?_, ?_, ?_, ?_, ?_, ?_⟩ <;> first | assumption | exact Nat.ne_of_gt (by assumption) | exact ne_obj N2 (by k_mem) (by k_mem) tup_list | exact ne_obj N2 (by k_mem) (by k_mem) tup_dict))))
  (case zlan => exact hlan)
  (case zfxm => exact fun q hq => (hfxm q hq))
  (case zfxl => exact hfxl)
  (case zef => exact hef.imp id (fun ⟨ha, hb, hc⟩ => ⟨⟨ha.a1, ha.a2, ha.a3, ha.a4, ha.a5, ha.a6, ha.a7, ha.a8, ha.a9, ha.b1, ha.b2, ha.b3, ha.b4, ha.b5, ha.b6, ha.b7, ha.b8, ha.b9⟩, fun q hq => (hb q hq), hc⟩))
  (case zle1 => (exact Nat.zero_le _))
  (case zle2 => (dsimp only; omega))
theorem stepTwo1 {fx fe ow : List (Addr × Obj)} {d₀ : PD} {i : Nat} {LA MA CA : Addr} {items : List Value} {nL : Nat} {pos : Int} {lk : Str} (B : Below callerA h₀ [] h₀) (X : (K w.params).In h₀) (T : Top p loose mean mg mb h₀) (S : Snd L oCE fx fe d₀ ⟨RW, KD, WT, P, D, CX, CU, RS, (⟨LA, MA, CA, items, nL, pos, lk⟩ :: ls), cur, wvs, nR, nK, nW, nX, nC, nS, d, ta, td0, tp, tl⟩ ow i) (hi : i < 25) (F : Fr h₀ L s.heap (fun y => if y = Str.ofString "turn" then some (Value.int kT tT) else if y = Str.ofString "row" then some (Value.ref RW) else if y = Str.ofString "waiting" then some (Value.ref WT) else if y = Str.ofString "kinds" then some (Value.ref KD) else u y))
    (N : News h₀ L s.heap ((RW, listOf (rowOf (⟨LA, MA, CA, items, nL, pos, lk⟩ :: ls) cur).toArray nR) :: (KD, listOf #[.str (Str.ofString "a") ta, .str (Str.ofString "d") td0, .str (Str.ofString "p") tp] nK) :: (WT, listOf wvs.toArray nW) :: (P, instObj 1367 D) :: (D, dictOf (d.es w) 13) :: (CX, listOf (ctxOf (⟨LA, MA, CA, items, nL, pos, lk⟩ :: ls)).toArray nX) :: (CU, listOf cur.toArray nC) :: (RS, listOf wvs.toArray nS) :: (L + 1, oCE) :: (tl ++ ow))) 
    (h : ∀ h' tk m' x', Good w L oCE fx fe d₀ x' h₀ h' m' ow i → Q .next { s with heap := h', toks := tk }) :
    wpAny (model PySem.Challenge.rw_ae5031_04.row.prog w) (callerA.deeper (envOfC (Str.ofString "law") lawScope L fa cd)) (execs forBody2 (envOfC (Str.ofString "law") lawScope L fa cd)) Q E s := by
  obtain ⟨hce, hoff, hcu, hcx, hrs, hct, hlv, hll, htc, htw, n6, htlf, hlan, hfxm, hfxl, hef, hle1, hle2⟩ := S
  dsimp only at hce hoff hcu hcx hrs hct hlv hll htc htw n6 htlf hlan hfxm hfxl hef hle1 hle2
  obtain ⟨n1, n2, n3, n4, n5, n6, n7, n8, n9, n10, n11, n12, n13, n14, n15⟩ := n6
  have hlen : (rowOf (⟨LA, MA, CA, items, nL, pos, lk⟩ :: ls) cur).length ≤ 100 := by omega
  have hwl : ((wvs) : List Value).length ≤ 100 := Nat.le_trans hle2 (by omega)
  have hcl : cur.length ≤ 100 := Nat.le_trans (row_ge (⟨LA, MA, CA, items, nL, pos, lk⟩ :: ls) cur) hlen
  have hxl : (ctxOf (⟨LA, MA, CA, items, nL, pos, lk⟩ :: ls)).length ≤ 100 := by rw [ctx_len]; exact Nat.le_trans (ls_le (⟨LA, MA, CA, items, nL, pos, lk⟩ :: ls) cur) hlen
  have oD : Off D [RW, KD, WT, P, CX, CU, RS, L + 1] := (off_con (ne_obj N (by k_mem) (by k_mem) dict_list) (off_con (ne_obj N (by k_mem) (by k_mem) dict_list) (off_con (ne_obj N (by k_mem) (by k_mem) dict_list) (off_con (ne_obj N (by k_mem) (by k_mem) inst_dict.symm) (off_con (ne_obj N (by k_mem) (by k_mem) dict_list) (off_con (ne_obj N (by k_mem) (by k_mem) dict_list) (off_con (ne_obj N (by k_mem) (by k_mem) dict_list) (off_con (ne_obj N (by k_mem) (by k_mem) (cell_dict hce).symm) (off_nil D)))))))))
  have tD : ∀ q ∈ tl ++ ow, q.1 ≠ D := fun q hq => (List.mem_append.mp hq).elim (fun h => (htlf q h).a3) (off_of hoff (by k_mem) q)
  have oCX : Off CX [RW, KD, WT, P, D, CU, RS, L + 1] := (off_con n3.symm (off_con n7.symm (off_con n10.symm (off_con (ne_obj N (by k_mem) (by k_mem) inst_list.symm) (off_con (ne_obj N (by k_mem) (by k_mem) dict_list.symm) (off_con n13 (off_con n14 (off_con (ne_obj N (by k_mem) (by k_mem) (cell_list hce).symm) (off_nil CX)))))))))
  have tCX : ∀ q ∈ tl ++ ow, q.1 ≠ CX := fun q hq => (List.mem_append.mp hq).elim (fun h => (htlf q h).a4) (off_of hoff (by k_mem) q)
  obtain ⟨ltk2, hctk⟩ := hct.cons_eq
  have hlv0 := hlv
  cases hlv with
  | @cons _ _ tm ltk tq ct km hM hC hcto hTo hko hro =>
  dsimp only at hM hC hctk hko hcto hTo
  have hLm : (LA, listOf items.toArray nL) ∈ tl := hll _ (.head _)
  have hin : ∀ q ∈ tl, q ∈ ((RW, listOf (rowOf (⟨LA, MA, CA, items, nL, pos, lk⟩ :: ls) cur).toArray nR) :: (KD, listOf #[.str (Str.ofString "a") ta, .str (Str.ofString "d") td0, .str (Str.ofString "p") tp] nK) :: (WT, listOf wvs.toArray nW) :: (P, instObj 1367 D) :: (D, dictOf (d.es w) 13) :: (CX, listOf (ctxOf (⟨LA, MA, CA, items, nL, pos, lk⟩ :: ls)).toArray nX) :: (CU, listOf cur.toArray nC) :: (RS, listOf wvs.toArray nS) :: (L + 1, oCE) :: (tl ++ ow)) := fun q hq => by (repeat' (first | exact List.mem_append.mpr (.inl hq) | refine List.Mem.tail _ ?_))
  have hkeep : ∀ q ∈ tl, q.2 ≠ listOf items.toArray nL → q ∈ tl.filter (fun q => decide (q.1 ≠ LA)) := fun q hq hn => (filter_keep N (hin _ hLm) hin hq).elim (fun e => absurd (congrArg Prod.snd e) hn) id
  have hthing : ∀ v, Thing tl v → Thing (tl.filter (fun q => decide (q.1 ≠ LA))) v := fun v ⟨t, a, ta, x, k, e, hm⟩ => ⟨t, a, ta, x, k, e, hkeep _ hm tup_list⟩
  have hfil : ∀ q ∈ tl.filter (fun q => decide (q.1 ≠ LA)), q ∈ tl ∧ q.1 ≠ LA := fun q hq => ⟨(List.mem_filter.mp hq).1, of_decide_eq_true (List.mem_filter.mp hq).2⟩
  have hrest : ∀ l ∈ ls, l.LA ≠ LA := fun l hl e => (List.nodup_cons.mp hlan).1 (List.mem_map.mpr ⟨l, hl, e⟩)
  have hlv2 : LevsOk (tl.filter (fun q => decide (q.1 ≠ LA))) ls := levs_filter hkeep hthing (fun _ _ => tup_list) hro
  have hlvF : LevsOk (tl.filter (fun q => decide (q.1 ≠ LA))) (⟨LA, MA, CA, items, nL, pos, lk⟩ :: ls) := levs_filter hkeep hthing (fun _ _ => tup_list) hlv0
  have inF : ∀ q ∈ tl.filter (fun q => decide (q.1 ≠ LA)) ++ ow, q ∈ tl ++ ow := fun q hq => (List.mem_append.mp hq).elim (fun h => List.mem_append.mpr (.inl (hfil q h).1)) fun h => List.mem_append.mpr (.inr h)
  have N0 : News h₀ L s.heap ((LA, listOf items.toArray nL) :: (CA, ({ cls := .type "tuple", data := .seq #[Value.int pos tq, ct, Value.ref LA] 0 } : Obj)) :: (MA, ({ cls := .type "tuple", data := .seq #[Value.none, .int pos tm, .str lk ltk] km } : Obj)) :: (RW, listOf (rowOf (⟨LA, MA, CA, items, nL, pos, lk⟩ :: ls) cur).toArray nR) :: (KD, listOf #[.str (Str.ofString "a") ta, .str (Str.ofString "d") td0, .str (Str.ofString "p") tp] nK) :: (WT, listOf wvs.toArray nW) :: (P, instObj 1367 D) :: (D, dictOf (d.es w) 13) :: (CX, listOf (ctxOf (⟨LA, MA, CA, items, nL, pos, lk⟩ :: ls)).toArray nX) :: (CU, listOf cur.toArray nC) :: (RS, listOf wvs.toArray nS) :: (L + 1, oCE) :: (tl.filter (fun q => decide (q.1 ≠ LA)) ++ ow)) := fun q hq => by
    rcases List.mem_cons.mp hq with rfl | hq
    · exact N _ (hin _ hLm)
    rcases List.mem_cons.mp hq with rfl | hq
    · exact N _ (hin _ hC)
    rcases List.mem_cons.mp hq with rfl | hq
    · exact N _ (hin _ hM)
    (iterate 9 (rcases List.mem_cons.mp hq with rfl | hq; exact N _ (by k_mem)))
    exact N _ (by (repeat' (first | exact inF q hq | refine List.Mem.tail _ ?_)))
  have hbg : 0 ≤ ((begJ (⟨LA, MA, CA, items, nL, pos, lk⟩ :: ls) : Nat) : Int) - 1 := by simp only [begJ]; omega
  have hxM : (rowOf ls items ++ [Value.ref MA])[(((begJ (⟨LA, MA, CA, items, nL, pos, lk⟩ :: ls) : Nat) : Int) - 1).toNat]? = some (Value.ref MA) := by
    rw [show (((begJ (⟨LA, MA, CA, items, nL, pos, lk⟩ :: ls) : Nat) : Int) - 1).toNat = (rowOf ls items).length by simp only [begJ]; omega]
    simp
  have hd1 : (rowOf (⟨LA, MA, CA, items, nL, pos, lk⟩ :: ls) cur).drop (((begJ (⟨LA, MA, CA, items, nL, pos, lk⟩ :: ls) : Nat) : Int) - 1 + 1).toNat = cur := by rw [show (((begJ (⟨LA, MA, CA, items, nL, pos, lk⟩ :: ls) : Nat) : Int) - 1 + 1).toNat = begJ (⟨LA, MA, CA, items, nL, pos, lk⟩ :: ls) by simp only [begJ]; omega]; exact row_drop _ cur
  have hd2 : (rowOf (⟨LA, MA, CA, items, nL, pos, lk⟩ :: ls) cur).take (((begJ (⟨LA, MA, CA, items, nL, pos, lk⟩ :: ls) : Nat) : Int) - 1 + 1).toNat = rowOf ls items ++ [Value.ref MA] := by rw [show (((begJ (⟨LA, MA, CA, items, nL, pos, lk⟩ :: ls) : Nat) : Int) - 1 + 1).toNat = begJ (⟨LA, MA, CA, items, nL, pos, lk⟩ :: ls) by simp only [begJ]; omega]; exact row_take (⟨LA, MA, CA, items, nL, pos, lk⟩ :: ls) cur
  have hd3 : (rowOf ls items ++ [Value.ref MA]).take (((begJ (⟨LA, MA, CA, items, nL, pos, lk⟩ :: ls) : Nat) : Int) - 1).toNat = rowOf ls items := by
    rw [show (((begJ (⟨LA, MA, CA, items, nL, pos, lk⟩ :: ls) : Nat) : Int) - 1).toNat = (rowOf ls items).length by simp only [begJ]; omega]
    simp
  have hlen9 := hlen
  simp only [rowOf, List.length_append, List.length_cons] at hlen9
  have hrl : (rowOf ls items).length ≤ 100 := by omega
  have hr1 : (rowOf ls items ++ [Value.ref MA]).length ≤ 100 := by simp only [List.length_append, List.length_cons, List.length_nil]; omega
  have hsl : (ctxOf ls).length ≤ 100 := by rw [ctx_len]; exact Nat.le_trans (ls_le ls items) hrl
  have hne : lk ≠ Str.ofString "x" := by rcases hko with rfl | rfl | rfl <;> decide
  have uL := htlf _ hLm
  have uM := htlf _ hM
  have uC := htlf _ hC
  have hLo : ∀ q ∈ ow, q.1 ≠ LA := off_of hoff (by (repeat' (first | exact List.mem_map.mpr ⟨_, hLm, rfl⟩ | refine List.Mem.tail _ ?_)))
  have oLA : Off LA [D, CX] := off_con uL.a3 (off_con uL.a4 (off_nil _))
  have oMA : Off MA [D, CX] := off_con uM.a3 (off_con uM.a4 (off_nil _))
  have oCA : Off CA [D, CX] := off_con uC.a3 (off_con uC.a4 (off_nil _))
  obtain ⟨b1, b2, b3⟩ := beg_ok (nx := tl.filter (fun q => decide (q.1 ≠ LA)) ++ ow) (hlvF.mono fun q hq => List.mem_append.mpr (.inl hq)) (fun v hv => (hthing v (htc v hv)).mono fun q hq => List.mem_append.mpr (.inl hq))
  refine two1 (j := begJ (⟨LA, MA, CA, items, nL, pos, lk⟩ :: ls)) (tl := tl.filter (fun q => decide (q.1 ≠ LA)) ++ ow) B X T F N0 hce hlen hr1 hwl hcl b1 b2 b3 hcu hd1 hd2 hctk hcx hcto.kind hne hko.repr hbg hxM hd3 hrl hsl oMA oCA oLA oD (fun q hq => tD q (inF q hq)) oCX (fun q hq => tCX q (inF q hq)) ?_
  intro h' tk m' RW' F2 mr2 mw2 mk2 N2 f0 t0
  obtain ⟨f1, f2, f3, f4, f5⟩ := f0
  have KDLA : @Ne Nat LA KD := ne_obj N (hin _ hLm) (by k_mem) (kd_ne_items hTo)
  have v1 : @Ne Nat KD LA := KDLA.symm
  have v2 : @Ne Nat WT LA := uL.a2.symm
  have v3 : @Ne Nat CX LA := uL.a4.symm
  have v4 : @Ne Nat RS LA := uL.a6.symm
  have hlk := (List.nodup_cons.mp hlan).2
  have hfxm' : ∀ q ∈ fx, q ∈ tl.filter (fun q => decide (q.1 ≠ LA)) := fun q hq => List.mem_filter.mpr ⟨hfxm q hq, decide_eq_true (fun e => hfxl _ (.head _) q hq e.symm)⟩
  refine h _ _ _ ⟨RW', KD, WT, P, D, CX, LA, RS, ls, items, wvs, 0, nK, nW, nX + 1, nL, nS, { d with curtype := ct, curstack := .ref LA }, ta, td0, tp, tl.filter (fun q => decide (q.1 ≠ LA))⟩ ⟨F2, ?zN, mr2, mw2, mk2, hce, ?zoff, ?zcu, ?zcx, ?zrs, ?zct, ?zlv, ?zll, ?ztc, ?ztw, ?zsix, ?ztlf, ?zlan, ?zfxm, ?zfxl, ?zef, ?zle1, ?zle2⟩
  (case zN => (refine news_sub N2 ?_; simp only [Sd.led, List.cons_append]; (repeat' (first | exact fun q hq => hq | (refine sub_cons (by k_mem) ?_) | (refine sub_tail ?_)))))
  (case zoff => ((try simp only [List.map_cons]); (repeat' (refine off_cons ?_ ?_)); all_goals (first | exact off_of hoff (by k_mem) | exact hLo | exact (fun q hq => Nat.ne_of_lt (allNew_of xA q (List.mem_append.mpr (.inr hq)))) | exact (fun q hq => Nat.ne_of_lt (allNew_of yA q (List.mem_append.mpr (.inr hq)))) | (intro q hq; first | exact t0 q (List.mem_append.mpr (.inr hq))) | exact off_mono hoff (fun b hb => (by obtain ⟨q, hq, rfl⟩ := List.mem_map.mp hb; (repeat' (first | exact List.mem_map.mpr ⟨q, (hfil q hq).1, rfl⟩ | refine List.Mem.tail _ ?_))))))) 
  (case zcu => first | exact hcu | rfl)
  (case zcx => first | exact hcx | rfl)
  (case zrs => first | exact hrs | rfl)
  (case zct => exact hcto)
  (case zlv => exact hlv2)
  (case zll => (intro q hq; refine List.mem_filter.mpr ⟨hll q (.tail _ hq), decide_eq_true ?_⟩; obtain ⟨l, hl, rfl⟩ := List.mem_map.mp hq; exact hrest l hl))
  (case ztc => exact fun v hv => hthing v (hTo v hv))
  (case ztw => exact fun v hv => hthing v (htw v hv))
  (case zsix => (constructor <;> first | assumption | (apply Ne.symm; assumption)))
  (case ztlf => (intro q hq; (try simp only [List.mem_cons] at hq); rcases hq with hq <;> (dsimp only; first | (obtain ⟨hq, hqL⟩ := hfil q hq; obtain ⟨z1, z2, z3, z4, z5, z6⟩ := htlf q hq; refine ⟨?_, ?_, ?_, ?_, ?_, ?_⟩ <;> first | assumption | exact t0 q (List.mem_append.mpr (.inl (List.mem_filter.mpr ⟨hq, decide_eq_true hqL⟩)))) | (refine ⟨?_, ?_, ?_, ?_, ?_, ?_⟩ <;> first | assumption | exact Nat.ne_of_gt (by assumption) | exact ne_obj N2 (by k_mem) (by k_mem) tup_list | exact ne_obj N2 (by k_mem) (by k_mem) tup_dict))))
  (case zlan => exact hlk)
  (case zfxm => exact hfxm')
  (case zfxl => exact fun l hl => hfxl l (.tail _ hl))
  (case zef => exact hef.imp id (fun ⟨ha, hb, hc⟩ => ⟨⟨ha.a1, ha.a2, ha.a3, ha.a4, ha.a5, ha.a6, ha.a7, ha.a8, ha.a9, ha.b1, ha.b2, ha.b3, ha.b4, ha.b5, ha.b6, ha.b7, ha.b8, ha.b9⟩, fun q hq => List.mem_filter.mpr ⟨hb q hq, decide_eq_true (fun e => hc _ (.head _) q hq e.symm)⟩, fun l hl => hc l (.tail _ hl)⟩))
  (case zle1 => (have e3 := hle1; simp only [rowOf, List.length_append, List.length_cons] at e3; dsimp only; omega))
  (case zle2 => (dsimp only; omega))
end
end Mine
end
section
theorem Mine.freshT9 : True := by
  run_tac (do PyProof.Rows.walkLines.set (0, {}); PyProof.Rows.walkHit.set {}; PyProof.Rows.walkTop.set false; PyProof.Rows.walkStart.set 0; PyProof.Rows.walkLate.set false)
  trivial
open PySem PySem.W PySem.Calls PyProof.Rows
set_option Elab.async false
set_option maxRecDepth 100000
set_option maxHeartbeats 400000
set_option linter.unusedVariables false
set_option linter.unusedSimpArgs false
namespace Mine
local macro_rules | `(tactic| walk_at "last subscriptTail") => `(tactic| (k_here; (with_reducible show wpAny _ _ (subscriptTail _ (PySem.Expr.Slice _ _ none _) (Value.ref _) (Value.ref _)) _ _ _); k_dflt (refine' slice_any ?F ?N ?l ?p ?q ?e ?_ ?s ?t ?z; (case F => k_asm); (case N => k_asm); (case l => k_mem); (case p => kmk_part); (case q => kmk_part); (case e => (first | exact pick_from (by omega) | exact pick_upto (by omega) | exact pick_neg (by first | omega | (refine Int.neg_neg_of_pos ?_; omega)))); (case s => with_unfolding_all rfl); (case t => kmk_pure); (case z => (first | assumption | omega | (simp only [List.length_cons, List.length_nil, List.length_append, List.length_take, List.length_drop]; omega)))); intro D' h' F' N' l1; (try k_lt l1); (try k_sweep)))
local macro_rules | `(tactic| walk_at "subscriptTail Name Slice ref ref") => `(tactic| (k_here; (with_reducible show wpAny _ _ (subscriptTail _ (PySem.Expr.Slice _ _ none _) (Value.ref _) (Value.ref _)) _ _ _); k_dflt (refine' slice_any ?F ?N ?l ?p ?q ?e ?_ ?s ?t ?z; (case F => k_asm); (case N => k_asm); (case l => k_mem); (case p => kmk_part); (case q => kmk_part); (case e => (first | exact pick_from (by omega) | exact pick_upto (by omega) | exact pick_neg (by first | omega | (refine Int.neg_neg_of_pos ?_; omega)))); (case s => with_unfolding_all rfl); (case t => kmk_pure); (case z => (first | assumption | omega | (simp only [List.length_cons, List.length_nil, List.length_append, List.length_take, List.length_drop]; omega)))); intro D' h' F' N' l1; (try k_lt l1); (try k_sweep)))
local macro_rules | `(tactic| walk_at "setItem ref") => `(tactic| (k_here; k_dflt (refine' setSlice_neg ?F ?N ?b ?ne ?U ?x ?z ?_; (case F => k_asm); (case N => k_asm); (case b => k_mem); (case ne => k_ne); (case U => k_upd); (case x => (first | omega | (refine Int.neg_neg_of_pos ?_; omega))); (case z => (first | assumption | omega | (simp only [List.length_cons, List.length_nil, List.length_append, List.length_take, List.length_drop]; omega)))); intro h' F' N'; (try k_sweep)))
local macro_rules | `(tactic| walk_at "call builtin:len") => `(tactic| (k_here; (with_reducible show wpAny _ _ (call (Value.builtin "len") [Value.ref _]) _ _ _); k_dflt (refine' len_any ?N ?m ?z ?_; (case N => k_asm); (case m => k_mem); (case z => (first | assumption | omega | (simp only [List.length_cons, List.length_nil, List.length_append, List.length_take, List.length_drop]; omega))))))
local macro_rules | `(tactic| walk_at "truthy ref") => `(tactic| (k_here; k_dflt (refine' truthy_any ?N ?m ?z ?_; (case N => k_asm); (case m => k_mem); (case z => (first | assumption | omega | (simp only [List.length_cons, List.length_nil, List.length_append, List.length_take, List.length_drop]; omega)))); (try simp only [List.isEmpty_cons, List.isEmpty_nil, Bool.not_false, Bool.not_true])))
local macro_rules | `(tactic| walk_at "call builtin:list.pop") => `(tactic| (k_here; k_dflt (first | (refine' pop_last ?F ?N ?U ?z ?_; (case F => k_asm); (case N => k_asm); (case U => k_upd); (case z => (first | assumption | omega | (simp only [List.length_cons, List.length_nil, List.length_append, List.length_take, List.length_drop]; omega)))) | (refine' pop_first ?F ?N ?U ?z ?_; (case F => k_asm); (case N => k_asm); (case U => k_upd); (case z => (first | assumption | omega | (simp only [List.length_cons, List.length_nil, List.length_append, List.length_take, List.length_drop]; omega))))); intro h' F' N'; (try k_sweep)))
local macro_rules | `(tactic| walk_at "pyReprObj str") => `(tactic| (refine pyReprObj_str (hx := ?hx) ?_; (case hx => (rw [PySem.sizeLine_eq]; omega))))
local macro_rules | `(tactic| walk_at "compareOp NotEq str str") => `(tactic| first | refine ne_strs_true (by assumption) ?_ | refine ne_strs_false ?_)
local macro_rules | `(tactic| walk_at "SrcLP") => `(tactic| (k_here; k_dflt (refine LCp.SrcLP.ledger (by rfl) (by k_asm) (by k_asm) (by k_mem) (by (simp only [List.size_toArray, PySem.sizeLine_eq]; omega)) ?_; intro g'; (rename Secs _ _ _ => hsec'); refine rest_snd (by rfl) (by rfl) (by decide) (.inr ⟨_, by k_mem, rfl, _, rfl⟩) _ _ 0 [] (hsec'.mono (fun p hp => (by simp only [List.mem_cons]; first | exact hp | exact .inr hp | exact .inr (.inr hp) | exact .inr (.inr (.inr hp)) | exact .inr (.inr (.inr (.inr hp))) | exact .inr (.inr (.inr (.inr (.inr hp))))))) (fun j v hj => by simpa using hj) ?_); intro D' h' tk' F' N' off'; (try simp only [LCg.Off1] at off')))
local macro_rules | `(tactic| walk_at "call builtin:len") => `(tactic| (k_here; (with_reducible show wpAny _ _ (call (Value.builtin "len") [Value.ref _]) _ _ _); k_dflt (refine' len_ba_K ?N ?m ?_; (case N => k_asm); (case m => k_mem))))
local macro_rules | `(tactic| walk_at "compareOp In int bytes") => `(tactic| (k_here; refine in_bytes_true (by decide +kernel) (by decide +kernel) (by decide +kernel) ?_))
local macro_rules | `(tactic| walk_at "truthy bytes") => `(tactic| (k_here; refine truthy_b0 ?_))
local macro_rules | `(tactic| walk_at "UnrEnd") => `(tactic| (k_here; k_dflt (refine UnrEnd.intro (by assumption) (by assumption) _ (fun p hp => hp) (my_off (by assumption)) ?_)))
local macro_rules | `(tactic| walk_at "exec While UnaryOp cons nil") => `(tactic| (k_here; k_dflt (refine whl_start 4 ?_)))
open PySem.Spec
theorem iter_up {prog : Program} {w : World} {A : Around} {E : Value → Shared → Prop} {s : Shared} {env : Env} {h₀ : Heap} {Q : Flow → Shared → Prop} {x : Str} {body : List Stmt} {r : Addr} {a₀ b₀ : Int} {t₀ u₀ v₀ : Tok} {n : Nat} {m₀ : Str → Option Value} {news : List (Addr × Obj)} (J : Nat → (Str → Option Value) → List (Addr × Obj) → Prop)
    (hh : A.handled = none) (hr : IsRange s.heap r a₀ b₀ 1 t₀ u₀ v₀) (hsmall : Builtin.Range.small a₀ b₀ 1 = true) (hn : Builtin.Range.rangeSize a₀ b₀ 1 = (n : Int)) (F : Fr h₀ env.locals s.heap m₀) (N : News h₀ env.locals s.heap news) (hj : J 0 m₀ news)
    (turn : ∀ (i : Nat) (k : Int) t m₁ nx h tk own, i < n → OwnOff own (nx.map (·.1)) → J i m₁ nx → Fr h₀ env.locals h (fun y => if y = x then some (.int k t) else m₁ y) → News h₀ env.locals h (nx ++ own) →
      wpAny (model prog w) A (execs body env) (InvPostG h₀ env.locals (J (i + 1)) own { s with heap := h, toks := tk } Q) E { s with heap := h, toks := tk })
    (done : ∀ m₁ nx h tk, J n m₁ nx → Fr h₀ env.locals h m₁ → News h₀ env.locals h nx → Q .next { s with heap := h, toks := tk }) :
    wpAny (model prog w) A (pyIter (.ref r)) (fun it s₂ => LoopAtV prog w A h₀ env x body Q E it s₂) E s := by
  refine wpAny_pyIter_range hr hsmall ?_
  have W : Walks prog w A s.heap.objs.size [s.heap.objs.size] [s.heap.objs.size] n (fun i v => i < n ∧ ∃ t, v = .int (a₀ + i * 1) t)
      (fun i h => IsRangeIter h s.heap.objs.size (a₀ + (i : Nat) * 1) ((n : Int) - (i : Nat)) 1) := (Walks.range hh _ a₀ 1 n).bound
  refine kdr_loop J W (fun _ h => h) (fun _ h => h) ?_ ?_ ?_ ?_ (by show IsRangeIter _ _ _ _ _; rw [hn]; simpa using Heap.get?_push_size _ rfl) (F.push _) (fun p hp => ⟨Heap.get?_push_of_some _ (N p hp).1, (N p hp).2⟩) hj ?_ ?_
  · intro i h hi b hb
    rw [List.mem_singleton.mp hb]
    exact ⟨_, hi⟩
  · intro hm
    exact absurd F.ns.lt ((List.mem_singleton.mp hm) ▸ Nat.lt_irrefl _)
  · intro b hb
    rw [List.mem_singleton.mp hb]
    exact next_is_new F
  · intro p hp hI
    exact absurd (Heap.lt_size (N p hp).1) ((List.mem_singleton.mp hI) ▸ Nat.lt_irrefl _)
  · rintro i v m₁ nx h tk own hi ⟨_, t, rfl⟩ hoff hJ F₁ N₁
    exact turn i _ t m₁ nx h tk own hi hoff hJ F₁ N₁
  · exact done
theorem map_is {x a b c : Str} {v va vb vc : Value} {u : Str → Option Value} (h1 : u a = some va) (h2 : u b = some vb) (h3 : u c = some vc) :
    (fun y => if y = x then some v else u y) = (fun y => if y = x then some v else if y = a then some va else if y = b then some vb else if y = c then some vc else u y) := by
  funext y
  by_cases q : y = x
  · simp only [if_pos q]
  simp only [if_neg q]
  by_cases q1 : y = a
  · rw [if_pos q1, q1]; exact h1
  rw [if_neg q1]
  by_cases q2 : y = b
  · rw [if_pos q2, q2]; exact h2
  rw [if_neg q2]
  by_cases q3 : y = c
  · rw [if_pos q3, q3]; exact h3
  rw [if_neg q3]
structure GotRange (h₀ : Heap) (L : Addr) (m : Str → Option Value) (news : List (Addr × Obj)) (s : Shared) (k : Int) (xv : Value) (s₁ : Shared) : Prop where
  mk ::
  got : ∃ r h1 tk t0 t1 t2, xv = .ref r ∧ s₁ = { s with heap := h1, toks := tk } ∧ IsRange h1 r 0 k 1 t0 t1 t2 ∧ Fr h₀ L h1 m ∧ News h₀ L h1 news
theorem name_is {a : Str} {v : Value} {u : Str → Option Value} (h : u a = some v) : u = (fun y => if y = a then some v else u y) := by
  funext y
  by_cases q : y = a
  · rw [if_pos q, q]; exact h
  rw [if_neg q]
theorem fr_is {h₀ h : Heap} {L : Addr} {m m' : Str → Option Value} (F : Fr h₀ L h m) (e : m = m') : Fr h₀ L h m' := e ▸ F
section
variable {w : World} {E : Value → Shared → Prop} {Q : Flow → Shared → Prop} {s : Shared} {h₀ : Heap} {L fa : Addr} {cd : Value}
  {p : Program} {loose : List Str} {mean : ExcName → Option Value} {mg mb : Str → Option Value} {oCE : Obj} {fx fe ow : List (Addr × Obj)} {d₀ : PD} {i : Nat}
theorem loop2 {x : Sd} {u : Str → Option Value} (B : Below callerA h₀ [] h₀) (X : (K w.params).In h₀) (T : Top p loose mean mg mb h₀) (S : Snd L oCE [] fe d₀ x [] 24)
    (F : Fr h₀ L s.heap u) (N : News h₀ L s.heap (x.led w L oCE))
    (mr : u (Str.ofString "row") = some (.ref x.RW)) (mw : u (Str.ofString "waiting") = some (.ref x.WT)) (mkd : u (Str.ofString "kinds") = some (.ref x.KD))
    (hE : PassesOwn (model PySem.Challenge.rw_ae5031_04.row.prog w) (callerA.deeper (envOfC (Str.ofString "law") lawScope L fa cd)) (envOfC (Str.ofString "law") lawScope L fa cd) E)
    (h : ∀ h' tk m' x', Fr h₀ L h' m' → News h₀ L h' (x'.led w L oCE) → m' (Str.ofString "row") = some (.ref x'.RW) → m' (Str.ofString "waiting") = some (.ref x'.WT) → m' (Str.ofString "kinds") = some (.ref x'.KD) → Snd L oCE [] fe d₀ x' [] 24 → Q .next { s with heap := h', toks := tk }) :
    wpAny (model PySem.Challenge.rw_ae5031_04.row.prog w) (callerA.deeper (envOfC (Str.ofString "law") lawScope L fa cd)) (exec lawFor2 (envOfC (Str.ofString "law") lawScope L fa cd)) Q E s := by
  revert X
  k_fill
  intro X
  have hrl : (rowOf x.ls x.cur).length ≤ 48 := S.hle1
  obtain ⟨RW, KD, WT, P, D, CX, CU, RS, ls, cur, wvs, nR, nK, nW, nX, nC, nS, d, ta, td0, tp, tl⟩ := x
  simp only [Sd.led] at N mr mw mkd hrl
  have F0 : Fr h₀ L s.heap (fun y => if y = Str.ofString "row" then some (Value.ref RW) else u y) := fr_is F (name_is mr)
  clear F
  unfold lawFor2
  have hev : wpAny (model PySem.Challenge.rw_ae5031_04.row.prog w) (callerA.deeper (envOfC (Str.ofString "law") lawScope L fa cd)) (eval (PySem.Expr.Call (PySem.Expr.Name (Str.ofString "range") ⟨1216, 16, 1216, 21⟩) [PySem.Expr.BinOp (PySem.Expr.Call (PySem.Expr.Name (Str.ofString "len") ⟨1216, 22, 1216, 25⟩) [PySem.Expr.Name (Str.ofString "row") ⟨1216, 26, 1216, 29⟩] [] ⟨1216, 22, 1216, 30⟩) Operator.Add (PySem.Expr.Constant (Const.int 1) 0 ⟨1216, 33, 1216, 34⟩) ⟨1216, 22, 1216, 34⟩] [] ⟨1216, 16, 1216, 35⟩) (envOfC (Str.ofString "law") lawScope L fa cd))
      (fun xv s₁ => GotRange h₀ L (fun y => if y = Str.ofString "row" then some (Value.ref RW) else u y) (Sd.led w L oCE ⟨RW, KD, WT, P, D, CX, CU, RS, ls, cur, wvs, nR, nK, nW, nX, nC, nS, d, ta, td0, tp, tl⟩) s (((rowOf ls cur).length : Int) + 1) xv s₁) E s := by
    k_steps
    all_goals first
      | exact ⟨⟨_, _, _, _, _, _, rfl, rfl, by assumption, by assumption, by assumption⟩⟩
      | exact ⟨⟨_, _, _, _, _, _, rfl, rfl, by assumption, by assumption, fun q hq => (by assumption : News _ _ _ _) q (.tail _ hq)⟩⟩
  refine For_invVF F0 rfl rfl (wpAny_mono hev (fun xv s₁ hx => ?_) fun _ _ e => e)
  obtain ⟨r, h1, tk1, t0, t1, t2, rfl, rfl, hR, F1, N1⟩ := hx.got
  clear hev F0
  refine iter_up (n := (rowOf ls cur).length + 1) (fun i m nx => ∃ x', nx = Sd.led w L oCE x' ∧ m (Str.ofString "row") = some (.ref x'.RW) ∧ m (Str.ofString "waiting") = some (.ref x'.WT) ∧ m (Str.ofString "kinds") = some (.ref x'.KD) ∧ Snd L oCE [] fe d₀ x' [] 24)
    rfl hR (small_one (by omega) (by omega) (by omega) (by omega)) (by rw [rangeSize_nat]; omega) F1 N1 ⟨_, rfl, rfl, mw, mkd, S⟩ ?_ ?_
  · rintro i k t m₁ nx h2 tk own hi hoff ⟨x', rfl, mr', mw', mk', S'⟩ F2 N2
    obtain ⟨RW, KD, WT, P, D, CX, CU, RS, ls, cur, wvs, nR, nK, nW, nX, nC, nS, d, ta, td0, tp, tl⟩ := x'
    have S2 := S'.own (w := w) hoff
    simp only [Sd.led, List.cons_append] at N2 mr' mw' mk'
    have F3 := fr_is F2 (map_is (x := Str.ofString "turn") (v := Value.int k t) mr' mw' mk')
    cases ls with
    | nil =>
      refine stepTwo0 B X T S2 (by decide) F3 N2 ?_
      intro h3 tk3 m3 x3 G
      exact h h3 tk3 m3 x3 G.F (fun q hq => G.N q (List.mem_append.mpr (.inl hq))) G.mr G.mw G.mkd G.S.bare
    | cons l ls =>
      obtain ⟨LA, MA, CA, items, nL, pos, lk⟩ := l
      refine stepTwo1 B X T S2 (by decide) F3 N2 ?_
      intro h3 tk3 m3 x3 G
      exact InvEndG.intro G.F G.N ⟨x3, rfl, G.mr, G.mw, G.mkd, G.S.own (w := w) (fun _ h => nomatch h)⟩ G.S.hoff (fun q hq => List.mem_append.mpr (.inl hq)) (fun q hq => List.mem_append.mpr (.inr hq))
  · rintro m₁ nx h2 tk ⟨x', rfl, mr', mw', mk', S'⟩ F2 N2
    exact h h2 tk m₁ x' F2 N2 mr' mw' mk' S'
end
end Mine
end
section
theorem Mine.freshT10 : True := by
  run_tac (do PyProof.Rows.walkLines.set (0, {}); PyProof.Rows.walkHit.set {}; PyProof.Rows.walkTop.set false; PyProof.Rows.walkStart.set 0; PyProof.Rows.walkLate.set false)
  trivial
open PySem PySem.W PySem.Calls PyProof.Rows
set_option Elab.async false
set_option maxRecDepth 100000
set_option maxHeartbeats 4000000
set_option linter.unusedVariables false
set_option linter.unusedSimpArgs false
namespace Mine
structure Stop (p : Prop) : Prop where
  mk ::
  go : p
theorem stopAt {p : Prop} (h : Stop p) : p := h.go
local macro_rules | `(tactic| walk_at "last subscriptTail") => `(tactic| (k_here; (with_reducible show wpAny _ _ (subscriptTail _ (PySem.Expr.Slice _ _ none _) (Value.ref _) (Value.ref _)) _ _ _); k_dflt (refine' slice_any ?F ?N ?l ?p ?q ?e ?_ ?s ?t ?z; (case F => k_asm); (case N => k_asm); (case l => k_mem); (case p => kmk_part); (case q => kmk_part); (case e => (first | exact pick_from (by omega) | exact pick_upto (by omega) | exact pick_neg (by first | omega | (refine Int.neg_neg_of_pos ?_; omega)))); (case s => with_unfolding_all rfl); (case t => kmk_pure); (case z => (first | assumption | omega | (simp only [List.length_cons, List.length_nil, List.length_append, List.length_take, List.length_drop]; omega)))); intro D' h' F' N' l1; (try k_lt l1); (try k_sweep)))
local macro_rules | `(tactic| walk_at "subscriptTail Name Slice ref ref") => `(tactic| (k_here; (with_reducible show wpAny _ _ (subscriptTail _ (PySem.Expr.Slice _ _ none _) (Value.ref _) (Value.ref _)) _ _ _); k_dflt (refine' slice_any ?F ?N ?l ?p ?q ?e ?_ ?s ?t ?z; (case F => k_asm); (case N => k_asm); (case l => k_mem); (case p => kmk_part); (case q => kmk_part); (case e => (first | exact pick_from (by omega) | exact pick_upto (by omega) | exact pick_neg (by first | omega | (refine Int.neg_neg_of_pos ?_; omega)))); (case s => with_unfolding_all rfl); (case t => kmk_pure); (case z => (first | assumption | omega | (simp only [List.length_cons, List.length_nil, List.length_append, List.length_take, List.length_drop]; omega)))); intro D' h' F' N' l1; (try k_lt l1); (try k_sweep)))
local macro_rules | `(tactic| walk_at "setItem ref") => `(tactic| (k_here; k_dflt (refine' setSlice_neg ?F ?N ?b ?ne ?U ?x ?z ?_; (case F => k_asm); (case N => k_asm); (case b => k_mem); (case ne => k_ne); (case U => k_upd); (case x => (first | omega | (refine Int.neg_neg_of_pos ?_; omega))); (case z => (first | assumption | omega | (simp only [List.length_cons, List.length_nil, List.length_append, List.length_take, List.length_drop]; omega)))); intro h' F' N'; (try k_sweep)))
local macro_rules | `(tactic| walk_at "call builtin:len") => `(tactic| (k_here; (with_reducible show wpAny _ _ (call (Value.builtin "len") [Value.ref _]) _ _ _); k_dflt (refine' len_any ?N ?m ?z ?_; (case N => k_asm); (case m => k_mem); (case z => (first | assumption | omega | (simp only [List.length_cons, List.length_nil, List.length_append, List.length_take, List.length_drop]; omega))))))
local macro_rules | `(tactic| walk_at "truthy ref") => `(tactic| (k_here; k_dflt (refine' truthy_any ?N ?m ?z ?_; (case N => k_asm); (case m => k_mem); (case z => (first | assumption | omega | (simp only [List.length_cons, List.length_nil, List.length_append, List.length_take, List.length_drop]; omega)))); (try simp only [List.isEmpty_cons, List.isEmpty_nil, Bool.not_false, Bool.not_true])))
local macro_rules | `(tactic| walk_at "call builtin:list.pop") => `(tactic| (k_here; k_dflt (first | (refine' pop_last ?F ?N ?U ?z ?_; (case F => k_asm); (case N => k_asm); (case U => k_upd); (case z => (first | assumption | omega | (simp only [List.length_cons, List.length_nil, List.length_append, List.length_take, List.length_drop]; omega)))) | (refine' pop_first ?F ?N ?U ?z ?_; (case F => k_asm); (case N => k_asm); (case U => k_upd); (case z => (first | assumption | omega | (simp only [List.length_cons, List.length_nil, List.length_append, List.length_take, List.length_drop]; omega))))); intro h' F' N'; (try k_sweep)))
local macro_rules | `(tactic| walk_at "pyReprObj str") => `(tactic| (refine pyReprObj_str (hx := ?hx) ?_; (case hx => (rw [PySem.sizeLine_eq]; omega))))
local macro_rules | `(tactic| walk_at "compareOp NotEq str str") => `(tactic| first | refine ne_strs_true (by assumption) ?_ | refine ne_strs_false ?_)
local macro_rules | `(tactic| walk_at "SrcLP") => `(tactic| (k_here; k_dflt (refine LCp.SrcLP.ledger (by rfl) (by k_asm) (by k_asm) (by k_mem) (by (simp only [List.size_toArray, PySem.sizeLine_eq]; omega)) ?_; intro g'; (rename Secs _ _ _ => hsec'); refine rest_snd (by rfl) (by rfl) (by decide) (.inr ⟨_, by k_mem, rfl, _, rfl⟩) _ _ 0 [] (hsec'.mono (fun p hp => (by simp only [List.mem_cons]; first | exact hp | exact .inr hp | exact .inr (.inr hp) | exact .inr (.inr (.inr hp)) | exact .inr (.inr (.inr (.inr hp))) | exact .inr (.inr (.inr (.inr (.inr hp))))))) (fun j v hj => by simpa using hj) ?_); intro D' h' tk' F' N' off'; (try simp only [LCg.Off1] at off')))
local macro_rules | `(tactic| walk_at "call builtin:len") => `(tactic| (k_here; (with_reducible show wpAny _ _ (call (Value.builtin "len") [Value.ref _]) _ _ _); k_dflt (refine' len_ba_K ?N ?m ?_; (case N => k_asm); (case m => k_mem))))
local macro_rules | `(tactic| walk_at "compareOp In int bytes") => `(tactic| (k_here; refine in_bytes_true (by decide +kernel) (by decide +kernel) (by decide +kernel) ?_))
local macro_rules | `(tactic| walk_at "truthy bytes") => `(tactic| (k_here; refine truthy_b0 ?_))
local macro_rules | `(tactic| walk_at "UnrEnd") => `(tactic| (k_here; k_dflt (refine UnrEnd.intro (by assumption) (by assumption) _ (fun p hp => hp) (my_off (by assumption)) ?_)))
local macro_rules | `(tactic| walk_at "exec While UnaryOp cons nil") => `(tactic| (k_here; k_dflt (refine whl_start 4 ?_)))
local macro_rules | `(tactic| walk_at "CompSrc") => `(tactic| (refine stopAt ?_))
local macro_rules | `(tactic| walk_at "call ref") => `(tactic| ((with_reducible show wpAny _ _ (call (Value.ref 1656) _ _) _ _ _); refine stopAt ?_))
local macro_rules | `(tactic| walk_at "binaryOp Add ref ref") => `(tactic| (k_here; (with_reducible show wpAny _ _ (binaryOp _ (Value.ref _) (Value.ref _)) _ _ _); k_dflt (refine' add_any ?F ?N ?a ?b ?z ?_; (case F => k_asm); (case N => k_asm); (case a => k_mem); (case b => k_mem); (case z => (first | assumption | omega | (simp only [List.length_cons, List.length_nil, List.length_append, List.length_take, List.length_drop]; omega)))); intro D' h' F' N' l1; (try k_lt l1); (try k_sweep)))
local macro_rules | `(tactic| walk_at "compareOp Eq ref ref") => `(tactic| (k_here; (with_reducible show wpAny _ _ (compareOp CmpOp.Eq (Value.ref _) (Value.ref _)) _ _ _); k_dflt (refine' eq_lists ?N ?a ?b ?u ?_; (case N => k_asm); (case a => k_mem); (case b => k_mem); (case u => exact Nat.le_of_ble_eq_true rfl))))
open PySem.Spec LCg
section
variable {w : World} {E : Value → Shared → Prop} {Q : Flow → Shared → Prop} {s : Shared} {h₀ : Heap} {L fa : Addr} {cd : Value}
  {p : Program} {loose : List Str} {mean : ExcName → Option Value} {mg mb : Str → Option Value} {oCE : Obj} {fx fe ow : List (Addr × Obj)} {d₀ : PD} {i : Nat}
variable {m : Str → Option Value} {P D RS : Addr} {tl2 : List (Addr × Obj)} {elt : PySem.Expr} {x : Str} {scope : Scope} {cl : List (Str × Addr)} {Pv : Nat → Value → Prop} {Fin : List Value → List (Addr × Obj) → Prop}
theorem comp_ask (B : Below callerA h₀ [] h₀) (X : (K w.params).In h₀) (T : Top p loose mean mg mb h₀) (hFe : FeOk w P d₀ fe)
    (hel : ∀ (C : Addr) (h : Heap) (tk : Nat) (all : List (Addr × Obj)) (Q' : Value → Shared → Prop) (E' : Value → Shared → Prop), Fr h₀ L h m → News h₀ L h ((L + 1, oCE) :: all) → (∀ tk', wpAny (model PySem.Challenge.rw_ae5031_04.row.prog w) (callerA.deeper (envOfC (Str.ofString "law") lawScope L fa cd)) (call (.ref 1656) [.ref P] []) Q' E' { s with heap := h, toks := tk' }) → wpAny (model PySem.Challenge.rw_ae5031_04.row.prog w) (callerA.deeper (envOfC (Str.ofString "law") lawScope L fa cd)) (eval elt (compEnvC scope cl C (envOfC (Str.ofString "law") lawScope L fa cd))) Q' E' { s with heap := h, toks := tk })
    (mP : (P, instObj 1367 D) ∈ tl2) (mC : (L + 1, oCE) ∈ tl2) (nRD : @Ne Nat RS D) (nR : ∀ p ∈ tl2, @Ne Nat p.1 RS) (nD : ∀ p ∈ tl2, @Ne Nat p.1 D) :
    ∀ (ws : List Value) (n : Nat) (d : PD) (ys : List Value) (i : Nat), ws.length ≤ 900 → d.results = .ref RS → (d.eof = .bool true ∨ (Young d d₀ ∧ ∀ q ∈ fe, q ∈ tl2)) → (∀ n' d', Fin (ys ++ (ws ++ [.none])) ((RS, listOf ([] : List Value).toArray n') :: (D, dictOf (PD.es w d') 13) :: tl2)) →
      CompRest PySem.Challenge.rw_ae5031_04.row.prog w (callerA.deeper (envOfC (Str.ofString "law") lawScope L fa cd)) h₀ L m (envOfC (Str.ofString "law") lawScope L fa cd) elt x scope cl s (fun _ => True) Pv Fin (ws.length + 1) i ys ((RS, listOf ws.toArray n) :: (D, dictOf (PD.es w d) 13) :: tl2) := by
  intro ws
  induction ws with
  | nil =>
    intro n d ys i hz hrs hef hfin
    refine CompRest.succ ?_
    intro v I oI C oC Dl m₂ h tk E' hv hC hx F N off ne
    have nn : ∀ q ∈ ((RS, listOf ([] : List Value).toArray n) :: (D, dictOf (PD.es w d) 13) :: tl2), q ∈ ((I, oI) :: (C, oC) :: (Dl, lst ys) :: ((RS, listOf ([] : List Value).toArray n) :: (D, dictOf (PD.es w d) 13) :: tl2)) := fun q hq => .tail _ (.tail _ (.tail _ hq))
    have tt : ∀ q ∈ tl2, q ∈ ((I, oI) :: (C, oC) :: (Dl, lst ys) :: ((RS, listOf ([] : List Value).toArray n) :: (D, dictOf (PD.es w d) 13) :: tl2)) := fun q hq => nn q (.tail _ (.tail _ hq))
    refine hel C h tk _ _ _ F (fun q hq => (List.mem_cons.mp hq).elim (fun e => e ▸ N _ (tt _ mC)) (N q)) fun tk' => ?_
    rcases hef with heof | ⟨hY, hfe⟩
    · refine asked2U B F X T N (tt _ mP) (nn _ (.tail _ (.head _))) (nn _ (.head _)) hrs heof ?_
      intro h' tk2 F' N'
      exact CompEnd.intro F' N' _ (fun p hp => hp) off trivial (CompRest.zero (hfin _ _))
    · obtain ⟨TK, PM, BA, FP, FD, nT, u1, u2, u3, ub, uc, q1, q2, q3, q4, q5, q6, mTK, mPM, mBA, mFP, mFD⟩ := hFe
      have oD := off.mem _ (.tail _ (.head _))
      refine asked3U (D := D) (RS := RS) (d := d) B F X T N (tt _ mP) (nn _ (.head _)) (tt _ (hfe _ mTK)) (tt _ (hfe _ mPM)) (tt _ (hfe _ mBA)) (tt _ (hfe _ mFP)) (tt _ (hfe _ mFD))
        (.tail (Ne.symm oD.1) (.tail (Ne.symm oD.2.1) (.tail (Ne.symm oD.2.2) (.tail nRD (.head nD))))) hrs (hY.a2.trans q1) (hY.a9.trans q2) (hY.a1.trans q3) (hY.a4.trans q4) (hY.a5.trans q5) (hY.a6.trans q6) (Ne.symm (nR _ (hfe _ mTK))) ?_
      intro h' tk2 vb vf vc F' N'
      refine CompEnd.intro F' N' _ (fun p hp => hp) ?_ trivial (CompRest.zero (hfin _ { d with eof := .bool true, bufpos := vb, buf := vf, charpos := vc }))
      exact off
  | cons r ws ih =>
    intro n d ys i hz hrs hef hfin
    refine CompRest.succ ?_
    intro v I oI C oC Dl m₂ h tk E' hv hC hx F N off ne
    have nn : ∀ q ∈ ((RS, listOf (r :: ws).toArray n) :: (D, dictOf (PD.es w d) 13) :: tl2), q ∈ ((I, oI) :: (C, oC) :: (Dl, lst ys) :: ((RS, listOf (r :: ws).toArray n) :: (D, dictOf (PD.es w d) 13) :: tl2)) := fun q hq => .tail _ (.tail _ (.tail _ hq))
    have tt : ∀ q ∈ tl2, q ∈ ((I, oI) :: (C, oC) :: (Dl, lst ys) :: ((RS, listOf (r :: ws).toArray n) :: (D, dictOf (PD.es w d) 13) :: tl2)) := fun q hq => nn q (.tail _ (.tail _ hq))
    refine hel C h tk _ _ _ F (fun q hq => (List.mem_cons.mp hq).elim (fun e => e ▸ N _ (tt _ mC)) (N q)) fun tk' => ?_
    have oR := off.mem _ (.head _)
    have hz' : ws.length ≤ 900 := by simp only [List.length_cons] at hz; omega
    refine asked1U (D := D) (RS := RS) (d := d) B F X T N (tt _ mP) (nn _ (.tail _ (.head _)))
      (.tail (Ne.symm oR.1) (.tail (Ne.symm oR.2.1) (.tail (Ne.symm oR.2.2) (.head fun p hp => (List.mem_cons.mp hp).elim (fun e => e ▸ Ne.symm nRD) (nR p))))) hrs hz' ?_
    intro h' tk2 F' N'
    refine CompEnd.intro F' N' _ (fun p hp => hp) ?_ trivial (ih (n + 1) d (ys ++ [r]) (i + 1) hz' hrs hef fun n' d' => ?_)
    · exact off
    · have := hfin n' d'
      simpa using this
end
section
variable {w : World} {E : Value → Shared → Prop} {Q : Flow → Shared → Prop} {s : Shared} {h₀ : Heap} {L fa : Addr} {cd : Value}
  {p : Program} {loose : List Str} {mean : ExcName → Option Value} {mg mb : Str → Option Value} {oCE : Obj} {fx fe ow : List (Addr × Obj)} {d₀ : PD} {i : Nat}
theorem ret0 {x : Sd} {u : Str → Option Value} {P₀ : Addr} (B : Below callerA h₀ [] h₀) (X : (K w.params).In h₀) (T : Top p loose mean mg mb h₀) (S : Snd L oCE [] fe d₀ x [] 24) (hCE : oCE.data = .cell (some (.ref P₀))) (hFe : FeOk w P₀ d₀ fe)
    (F : Fr h₀ L s.heap u) (N : News h₀ L s.heap (x.led w L oCE)) (mw : u (Str.ofString "waiting") = some (.ref x.WT))
    (h : ∀ h' tk m', Fr h₀ L h' m' → Q (.ret (.bool true)) { s with heap := h', toks := tk }) :
    wpAny (model PySem.Challenge.rw_ae5031_04.row.prog w) (callerA.deeper (envOfC (Str.ofString "law") lawScope L fa cd)) (exec lawRet (envOfC (Str.ofString "law") lawScope L fa cd)) Q E s := by
  revert X
  k_fill
  intro X
  have hwl : x.wvs.length ≤ 48 := S.hle2
  have hP : x.P = P₀ := (cell_same hCE S.hce).symm
  subst hP
  obtain ⟨RW, KD, WT, P, D, CX, CU, RS, ls, cur, wvs, nR, nK, nW, nX, nC, nS, d, ta, td0, tp, tl⟩ := x
  obtain ⟨hce, hoff, hcu, hcx, hrs, hct, hlv, hll, htc, htw, n6, htlf, hlan, hfxm, hfxl, hef, hle1, hle2⟩ := S
  dsimp only at hce hcu hcx hrs hct hlv hll htc htw n6 htlf hlan hfxm hfxl hef hle1 hle2 hFe
  obtain ⟨n1, n2, n3, n4, n5, n6, n7, n8, n9, n10, n11, n12, n13, n14, n15⟩ := n6
  simp only [Sd.led] at N mw hwl
  have N2 : News h₀ L s.heap ((RS, listOf wvs.toArray nS) :: (D, dictOf (PD.es w d) 13) :: ((RW, listOf (rowOf ls cur).toArray nR) :: (KD, kdO ta td0 tp nK) :: (WT, listOf wvs.toArray nW) :: (P, instObj 1367 D) :: (CX, listOf (ctxOf ls).toArray nX) :: (CU, listOf cur.toArray nC) :: (L + 1, oCE) :: tl)) := news_sub N (by
    intro q hq
    simp only [List.mem_cons] at hq ⊢
    rcases hq with e | e | e | e | e | e | e | e | e | e <;> simp only [e, true_or, or_true])
  have kRS : (RS, listOf wvs.toArray nS) ∈ ((RS, listOf wvs.toArray nS) :: (D, dictOf (PD.es w d) 13) :: ((RW, listOf (rowOf ls cur).toArray nR) :: (KD, kdO ta td0 tp nK) :: (WT, listOf wvs.toArray nW) :: (P, instObj 1367 D) :: (CX, listOf (ctxOf ls).toArray nX) :: (CU, listOf cur.toArray nC) :: (L + 1, oCE) :: tl)) := .head _
  have kD : (D, dictOf (PD.es w d) 13) ∈ ((RS, listOf wvs.toArray nS) :: (D, dictOf (PD.es w d) 13) :: ((RW, listOf (rowOf ls cur).toArray nR) :: (KD, kdO ta td0 tp nK) :: (WT, listOf wvs.toArray nW) :: (P, instObj 1367 D) :: (CX, listOf (ctxOf ls).toArray nX) :: (CU, listOf cur.toArray nC) :: (L + 1, oCE) :: tl)) := .tail _ (.head _)
  have up : ∀ q ∈ ((RW, listOf (rowOf ls cur).toArray nR) :: (KD, kdO ta td0 tp nK) :: (WT, listOf wvs.toArray nW) :: (P, instObj 1367 D) :: (CX, listOf (ctxOf ls).toArray nX) :: (CU, listOf cur.toArray nC) :: (L + 1, oCE) :: tl), q ∈ ((RS, listOf wvs.toArray nS) :: (D, dictOf (PD.es w d) 13) :: ((RW, listOf (rowOf ls cur).toArray nR) :: (KD, kdO ta td0 tp nK) :: (WT, listOf wvs.toArray nW) :: (P, instObj 1367 D) :: (CX, listOf (ctxOf ls).toArray nX) :: (CU, listOf cur.toArray nC) :: (L + 1, oCE) :: tl)) := fun q hq => .tail _ (.tail _ hq)
  have mP : (P, instObj 1367 D) ∈ ((RW, listOf (rowOf ls cur).toArray nR) :: (KD, kdO ta td0 tp nK) :: (WT, listOf wvs.toArray nW) :: (P, instObj 1367 D) :: (CX, listOf (ctxOf ls).toArray nX) :: (CU, listOf cur.toArray nC) :: (L + 1, oCE) :: tl) := .tail _ (.tail _ (.tail _ (.head _)))
  have mC : (L + 1, oCE) ∈ ((RW, listOf (rowOf ls cur).toArray nR) :: (KD, kdO ta td0 tp nK) :: (WT, listOf wvs.toArray nW) :: (P, instObj 1367 D) :: (CX, listOf (ctxOf ls).toArray nX) :: (CU, listOf cur.toArray nC) :: (L + 1, oCE) :: tl) := .tail _ (.tail _ (.tail _ (.tail _ (.tail _ (.tail _ (.head _))))))
  have nRD : @Ne Nat RS D := (ne_obj N2 kD kRS dict_list).symm
  have offR : ∀ q ∈ ((RW, listOf (rowOf ls cur).toArray nR) :: (KD, kdO ta td0 tp nK) :: (WT, listOf wvs.toArray nW) :: (P, instObj 1367 D) :: (CX, listOf (ctxOf ls).toArray nX) :: (CU, listOf cur.toArray nC) :: (L + 1, oCE) :: tl), @Ne Nat q.1 RS := fun q hq => by
    rcases List.mem_cons.mp hq with rfl | hq
    · exact n5
    rcases List.mem_cons.mp hq with rfl | hq
    · exact n9
    rcases List.mem_cons.mp hq with rfl | hq
    · exact n12
    rcases List.mem_cons.mp hq with rfl | hq
    · exact ne_obj N2 (up _ mP) kRS inst_list
    rcases List.mem_cons.mp hq with rfl | hq
    · exact n14
    rcases List.mem_cons.mp hq with rfl | hq
    · exact n15
    rcases List.mem_cons.mp hq with rfl | hq
    · exact ne_obj N2 (up _ mC) kRS (cell_list hce)
    · exact (htlf q hq).a6
  have offD : ∀ q ∈ ((RW, listOf (rowOf ls cur).toArray nR) :: (KD, kdO ta td0 tp nK) :: (WT, listOf wvs.toArray nW) :: (P, instObj 1367 D) :: (CX, listOf (ctxOf ls).toArray nX) :: (CU, listOf cur.toArray nC) :: (L + 1, oCE) :: tl), @Ne Nat q.1 D := fun q hq => by
    have hq0 := up q hq
    rcases List.mem_cons.mp hq with rfl | hq
    · exact (ne_obj N2 kD hq0 dict_list).symm
    rcases List.mem_cons.mp hq with rfl | hq
    · exact (ne_obj N2 kD hq0 dict_list).symm
    rcases List.mem_cons.mp hq with rfl | hq
    · exact (ne_obj N2 kD hq0 dict_list).symm
    rcases List.mem_cons.mp hq with rfl | hq
    · exact ne_obj N2 hq0 kD inst_dict
    rcases List.mem_cons.mp hq with rfl | hq
    · exact (ne_obj N2 kD hq0 dict_list).symm
    rcases List.mem_cons.mp hq with rfl | hq
    · exact (ne_obj N2 kD hq0 dict_list).symm
    rcases List.mem_cons.mp hq with rfl | hq
    · exact ne_obj N2 hq0 kD (cell_dict hce)
    · exact (htlf q hq).a3
  have hef2 := hef.imp id (fun (z : Young d d₀ ∧ (∀ q ∈ fe, q ∈ tl) ∧ ∀ l ∈ ls, ∀ q ∈ fe, @Ne Nat l.LA q.1) => (⟨z.1, fun q hq => .tail _ (.tail _ (.tail _ (.tail _ (.tail _ (.tail _ (.tail _ (z.2.1 q hq)))))))⟩ : Young d d₀ ∧ ∀ q ∈ fe, q ∈ ((RW, listOf (rowOf ls cur).toArray nR) :: (KD, kdO ta td0 tp nK) :: (WT, listOf wvs.toArray nW) :: (P, instObj 1367 D) :: (CX, listOf (ctxOf ls).toArray nX) :: (CU, listOf cur.toArray nC) :: (L + 1, oCE) :: tl)))
  have F0 := fr_is F (name_is mw)
  clear F N
  unfold lawRet
  k_steps
  refine ⟨?_⟩
  refine CompSrc.range (n := wvs.length + 1) rfl (by assumption) (by assumption) (by assumption) (small_one (by omega) (by omega) (by omega) (by omega)) (by rw [rangeSize_nat]; omega) (by rw [sizeLine_eq]; omega) ?_
  intro g
  refine comp_ask (P := P) (D := D) (RS := RS) (fe := fe) (d₀ := d₀) (oCE := oCE) (tl2 := ((RW, listOf (rowOf ls cur).toArray nR) :: (KD, kdO ta td0 tp nK) :: (WT, listOf wvs.toArray nW) :: (P, instObj 1367 D) :: (CX, listOf (ctxOf ls).toArray nX) :: (CU, listOf cur.toArray nC) :: (L + 1, oCE) :: tl)) B X T hFe ?hel mP mC nRD offR offD wvs nS d [] 0 (by omega) hrs hef2 ?fin
  case hel =>
    clear hef2 offD offR nRD kRS kD up
    intro C h2 tk2 all Q' E' F9 N9 hc
    k_steps
    exact ⟨hc _⟩
  case fin =>
    intro n' d'
    intro Dn h2 tk2 F9 N9 off9
    simp only [List.nil_append] at N9
    k_steps
    exact h _ _ _ (by assumption)
end
end Mine
end
section
theorem Mine.freshJ4 : True := by
  run_tac (do PyProof.Rows.walkLines.set (0, {}); PyProof.Rows.walkHit.set {}; PyProof.Rows.walkTop.set false; PyProof.Rows.walkStart.set 0; PyProof.Rows.walkLate.set false)
  trivial
open PySem PySem.W PySem.Calls PyProof.Rows PySem.Spec
set_option Elab.async false
set_option maxRecDepth 100000
set_option maxHeartbeats 4000000
set_option linter.unusedVariables false
set_option linter.unusedSimpArgs false
namespace Mine
abbrev es0 (w : World) (T : Nat) : Array DictEntry := #[ent w "script" T (.ref 1662), ent w "row" (T + 210) (.ref 1716), ent w "waiting" (T + 211) (.ref 1717), ent w "kinds" (T + 212) (.ref 1718)]
abbrev d00 (T : Nat) : PD := ⟨.ref 1672, .bool false, .int 0 (T + 125), .bytes #[] (T + 170), .int 0 (T + 173), .ref 1706, .bytes #[] (T + 179), .int 0 (T + 182), .ref 1707, .ref 1713, .none, .ref 1714, .ref 1715, T + 122, T + 124, T + 169, T + 172, T + 175, T + 178, T + 181, T + 184, T + 186, T + 191, T + 193, T + 195, T + 197⟩
abbrev fe0 (w : World) (T : Nat) : List (Addr × Obj) := [(1707, listOf #[] 0), (1706, methodObj (.ref 1186) (.ref 1696)), (1674, ({ cls := .type "bytearray", data := .bytearray #[] 0 } : Obj)), (1672, instObj 874 1671), (1671, dictOf [ent w "_BytesIO__buf" (T + 13) (.ref 1674), ent w "_BytesIO__pos" (T + 16) (.int 0 (T + 125))] 2)]
abbrev oCE0 : Obj := { cls := .type "cell", data := .cell (some (.ref 1696)) }
abbrev x00 (w : World) (T : Nat) : Sd := ⟨1716, 1718, 1717, 1696, 1695, 1713, 1714, 1715, [], [], [], 0, 0, 0, 0, 0, 0, d00 T, T + 207, T + 208, T + 209, fe0 w T⟩
section
variable (w : World) (T : Nat) (it : Array Value)
theorem at1663 : (lawTree1 w.params T it).get 1663 = some { cls := .type "frame", data := .dict (es0 w T) 4 } := by kernel_rfl
theorem at1716 : (lawTree1 w.params T it).get 1716 = some (listOf #[] 0) := by kernel_rfl
theorem at1718 : (lawTree1 w.params T it).get 1718 = some (kdO (T + 207) (T + 208) (T + 209) 0) := by kernel_rfl
theorem at1717 : (lawTree1 w.params T it).get 1717 = some (listOf #[] 0) := by kernel_rfl
theorem at1696 : (lawTree1 w.params T it).get 1696 = some (instObj 1367 1695) := by kernel_rfl
theorem at1695 : (lawTree1 w.params T it).get 1695 = some (dictOf (PD.es w (d00 T)) 13) := by kernel_rfl
theorem at1713 : (lawTree1 w.params T it).get 1713 = some (listOf #[] 0) := by kernel_rfl
theorem at1714 : (lawTree1 w.params T it).get 1714 = some (listOf #[] 0) := by kernel_rfl
theorem at1715 : (lawTree1 w.params T it).get 1715 = some (listOf #[] 0) := by kernel_rfl
theorem at1664 : (lawTree1 w.params T it).get 1664 = some oCE0 := by kernel_rfl
theorem at1707 : (lawTree1 w.params T it).get 1707 = some (listOf #[] 0) := by kernel_rfl
theorem at1706 : (lawTree1 w.params T it).get 1706 = some (methodObj (.ref 1186) (.ref 1696)) := by kernel_rfl
theorem at1674 : (lawTree1 w.params T it).get 1674 = some { cls := .type "bytearray", data := .bytearray #[] 0 } := by kernel_rfl
theorem at1672 : (lawTree1 w.params T it).get 1672 = some (instObj 874 1671) := by kernel_rfl
theorem at1671 : (lawTree1 w.params T it).get 1671 = some (dictOf [ent w "_BytesIO__buf" (T + 13) (.ref 1674), ent w "_BytesIO__pos" (T + 16) (.int 0 (T + 125))] 2) := by kernel_rfl
end
noncomputable abbrev hp0 (w : World) (T : Nat) (it : Array Value) : Heap := absHeap (lawTree0 w.params T it) 1663 topLife
noncomputable abbrev hp1 (w : World) (T : Nat) (it : Array Value) : Heap := absHeap (lawTree1 w.params T it) 1723 topLife
theorem law_fr (w : World) (T : Nat) (it : Array Value) : Fr (hp0 w T it) 1663 (hp1 w T it) (fun y => nsFind (es0 w T) y) := by
  refine ⟨⟨_, _, _, (abs_get (by decide) (at1663 w T it)).trans rfl, rfl, ?_, fun _ => rfl⟩, tree1_keep w.params T it, Nat.le_of_eq (absHeap_size _ _ _)⟩
  intro e he
  simp only [es0, List.mem_toArray, List.mem_cons, List.not_mem_nil, or_false] at he
  rcases he with rfl | rfl | rfl | rfl <;> exact ⟨_, _, rfl⟩
theorem news_abs {w : World} {T : Nat} {it : Array Value} {a : Addr} {o : Obj} (g : (lawTree1 w.params T it).get a = some o) (h1 : 1663 < a ∧ a < 1723) (ho : alive o = some o) : (hp1 w T it).get? a = some o ∧ a ≠ 1663 ∧ (hp0 w T it).get? a = none :=
  ⟨(abs_get h1.2 g).trans ho, Nat.ne_of_gt h1.1, abs_get_none fun h => Nat.lt_irrefl _ (Nat.lt_trans h1.1 h)⟩
theorem law_news (w : World) (T : Nat) (it : Array Value) : News (hp0 w T it) 1663 (hp1 w T it) ((x00 w T).led w 1663 oCE0) := by
  intro q hq
  simp only [Sd.led, rowOf, ctxOf, fe0, List.mem_cons, List.not_mem_nil, or_false] at hq
  rcases hq with rfl | rfl | rfl | rfl | rfl | rfl | rfl | rfl | rfl | rfl | rfl | rfl | rfl | rfl
  · exact news_abs (a := 1716) (at1716 w T it) ⟨by decide, by decide⟩ rfl
  · exact news_abs (a := 1718) (at1718 w T it) ⟨by decide, by decide⟩ rfl
  · exact news_abs (a := 1717) (at1717 w T it) ⟨by decide, by decide⟩ rfl
  · exact news_abs (a := 1696) (at1696 w T it) ⟨by decide, by decide⟩ rfl
  · exact news_abs (a := 1695) (at1695 w T it) ⟨by decide, by decide⟩ rfl
  · exact news_abs (a := 1713) (at1713 w T it) ⟨by decide, by decide⟩ rfl
  · exact news_abs (a := 1714) (at1714 w T it) ⟨by decide, by decide⟩ rfl
  · exact news_abs (a := 1715) (at1715 w T it) ⟨by decide, by decide⟩ rfl
  · exact news_abs (a := 1664) (at1664 w T it) ⟨by decide, by decide⟩ rfl
  · exact news_abs (a := 1707) (at1707 w T it) ⟨by decide, by decide⟩ rfl
  · exact news_abs (a := 1706) (at1706 w T it) ⟨by decide, by decide⟩ rfl
  · exact news_abs (a := 1674) (at1674 w T it) ⟨by decide, by decide⟩ rfl
  · exact news_abs (a := 1672) (at1672 w T it) ⟨by decide, by decide⟩ rfl
  · exact news_abs (a := 1671) (at1671 w T it) ⟨by decide, by decide⟩ rfl
theorem law_snd (w : World) (T : Nat) : Snd 1663 oCE0 [] (fe0 w T) (d00 T) (x00 w T) [] 0 := by
  refine ⟨rfl, (fun _ h => nomatch h), rfl, rfl, rfl, .nil, .nil, (fun _ h => nomatch h), (fun _ h => nomatch h), (fun _ h => nomatch h), ?_, ?_, List.nodup_nil, (fun _ h => nomatch h), (fun _ h => nomatch h), .inr ⟨?_, fun _ h => h, fun _ h => nomatch h⟩, Nat.zero_le _, Nat.zero_le _⟩
  · constructor <;> exact Nat.ne_of_beq_eq_false rfl
  · intro q hq
    simp only [fe0, List.mem_cons, List.not_mem_nil, or_false] at hq
    rcases hq with rfl | rfl | rfl | rfl | rfl <;> constructor <;> exact Nat.ne_of_beq_eq_false rfl
  · constructor <;> rfl
theorem law_fe (w : World) (T : Nat) : FeOk w 1696 (d00 T) (fe0 w T) :=
  ⟨1707, 1706, 1674, 1672, 1671, 0, _, _, _, _, _, rfl, rfl, rfl, rfl, rfl, rfl, .head _, .tail _ (.head _), .tail _ (.tail _ (.head _)), .tail _ (.tail _ (.tail _ (.head _))), .tail _ (.tail _ (.tail _ (.tail _ (.head _))))⟩
end Mine
end
section
theorem Mine.freshJ5 : True := by
  run_tac (do PyProof.Rows.walkLines.set (0, {}); PyProof.Rows.walkHit.set {}; PyProof.Rows.walkTop.set false; PyProof.Rows.walkStart.set 0; PyProof.Rows.walkLate.set false)
  trivial
open PySem PySem.W PySem.Calls PyProof.Rows PySem.Spec
set_option Elab.async false
set_option maxRecDepth 100000
set_option maxHeartbeats 4000000
set_option linter.unusedVariables false
set_option linter.unusedSimpArgs false
namespace Mine
theorem law_whole {w : World} {p : Program} {loose : List Str} {mean : ExcName → Option Value} {mg mb : Str → Option Value} {T : Nat} {its : List Value} {os : OsState} {R : Result → PySem.Shared → Prop}
    (X : (K w.params).In (hp0 w T its.toArray)) (Tp : Top p loose mean mg mb (hp0 w T its.toArray)) (hints : ∀ v ∈ its, ∃ k t, v = Value.int k t) (hlen : its.length ≤ 63)
    (hR : ∀ h' tk m', Fr (hp0 w T its.toArray) 1663 h' m' → R (.ok (.ret (.bool true))) ⟨h', topGens, topDrawn, tk, os⟩) :
    wpAny (model PySem.Challenge.rw_ae5031_04.row.prog w) (callerA.deeper lawEnv) (execs lawRest lawEnv) (fun f s₂ => match f with | .ret v => R (.ok (.ret v)) s₂ | _ => R (.ok (.ret .none)) s₂)
      (fun e s₂ => wpAny (model PySem.Challenge.rw_ae5031_04.row.prog w) (callerA.deeper lawEnv) («leaving» lawEnv e) (fun _ s₃ => R (.error e) s₃) (fun e' s₃ => R (.error e') s₃) s₂) ⟨hp1 w T its.toArray, topGens, topDrawn, T + 213, os⟩ := by
  have B := below_caller (hp0 w T its.toArray)
  have hl : (hp0 w T its.toArray).IsList 1662 its.toArray := by
    refine ⟨listObj its.toArray, ?_, rfl, _, rfl⟩
    rw [hp0, tree0_heap]
    have e : (absHeap (topTree w.params) 1662 topLife).objs.size = 1662 := absHeap_size _ _ _
    have := Heap.get?_push_size (absHeap (topTree w.params) 1662 topLife) (o := listObj its.toArray) rfl
    rwa [e] at this
  have F0 := fr_is (law_fr w T its.toArray) (name_is (a := Str.ofString "script") (v := .ref 1662) rfl)
  unfold lawRest lawEnv
  refine wpAny_execs_cons (loop1 (P₀ := 1696) B X Tp (law_snd w T) rfl (law_fe w T) hints (Nat.le_trans hlen (by decide)) ⟨hl⟩ F0 (law_news w T its.toArray) rfl rfl rfl (by passes_own) ?_)
  intro h1 tk1 m1 x1 F1 N1 mr1 mw1 mk1 S1
  refine wpAny_execs_cons (loop2 B X Tp S1 F1 N1 mr1 mw1 mk1 (by passes_own) ?_)
  intro h2 tk2 m2 x2 F2 N2 mr2 mw2 mk2 S2
  refine wpAny_execs_cons (ret0 (P₀ := 1696) B X Tp S2 rfl (law_fe w T) F2 N2 mw2 ?_)
  intro h3 tk3 m3 F3
  exact hR h3 tk3 m3 F3
end Mine
theorem PySem.Challenge.cw_ae5031_04_holds : PySem.Challenge.rw_ae5031_04.Holds := by
  refine Mine.mach ?_
  intro w s s₁ Y hgens G args vs as hpre hlay La hlo
  obtain ⟨⟨ord, hord, hl⟩, hrd, hin, hold, keeps, hg1, hos⟩ := La
  obtain ⟨its, tk, rfl, rfl, hints, hlen⟩ := Mine.law_args hpre hl
  have Y1 := congrArg Prod.fst Y
  have Y2 := congrArg Prod.snd Y
  obtain ⟨h, g, d, t, os⟩ := s
  obtain ⟨e1, e2, e3, e4⟩ : h = absHeap (Mine.topTree w.params) 1662 Mine.topLife ∧ g = Mine.topGens ∧ d = Mine.topDrawn ∧ t = Mine.topToks := by
    have := Y1
    simp only [Mine.lawYf, Mine.lawYa, Prod.mk.injEq] at this
    exact this
  subst e1 e2 e3 e4
  have X0 : InK Mine.K w (absHeap (Mine.topTree w.params) 1662 Mine.topLife) := InK.of Mine.KA_is w ⟨absHeap (Mine.topTree w.params) 1662 Mine.topLife, Mine.topGens, Mine.topDrawn, Mine.topToks, os⟩ (Eq.trans Y2 (by rw [Mine.K_is]; rfl))
  have sz : (absHeap (Mine.topTree w.params) 1662 Mine.topLife).objs.size = 1662 := absHeap_size _ _ _
  have hh : (absHeap (Mine.topTree w.params) 1662 Mine.topLife).push (Mine.listObj its.toArray) = Mine.hp0 w tk its.toArray := (Mine.tree0_heap w.params tk its.toArray).symm
  have X1 : (Mine.K w.params).In ((absHeap (Mine.topTree w.params) 1662 Mine.topLife).push (Mine.listObj its.toArray)) := Frag.In.keeps X0 keeps
  have T := G.T
  clear Y Y1 Y2 X0 G hrd hin hold keeps hg1 hos hl hlo
  dsimp only at T hgens ⊢
  rw [sz]
  rw [hh] at T X1 ⊢
  revert X1
  k_fill
  intro X1
  refine Mine.law_wp T.g (mg_of X1 T.g (by k_is)) ?_
  obtain ⟨n, hn⟩ := Mine.law_state w PySem.Challenge.rw_ae5031_04.row.prog os tk its.toArray
  refine Mine.law_rest hn hgens ?_
  refine Mine.law_whole X1 T hints hlen fun h' tk' m' F => ⟨.inl ⟨.bool true, .bool true, [], rfl, ?_, .bool true, ?_, ?_⟩, OldK.of_keep F.keep, rfl, AllBare.of_eq hgens⟩
  · intro cls; rfl
  · show (WShape.has [] (.bool true) .bool && WTm.holds [] (.eq .res (.lit (.bool true))) { args := args, res := some (.bool true), after := args }) = true
    have e1 : WShape.has [] (.bool true) .bool = true := by simp [WShape.has, WShape.arms]
    have e2 : WTm.holds [] (.eq .res (.lit (.bool true))) { args := args, res := some (.bool true), after := args } = true := by
      have e3 : PySem.W.same (WData.bool true) (WData.bool true) = true := same_self _
      simp [WTm.holds, WTm.value, e3]
    rw [e1, e2]; rfl
  · intro _; exact ⟨List.nodup_nil, fun a h => nomatch h⟩
end
