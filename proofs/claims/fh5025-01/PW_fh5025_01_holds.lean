import PyProof.Rows.All
import Wide.All
import OpenK.AllK
import Wide.FinOn
import PySem.Challenge.RW_fh5025_01
open PySem PySem.W PyProof.Rows
set_option Elab.async false
namespace Mine
open Lean Meta Elab in
/-- an auxiliary theorem, checked at once -/
def sideThm (ty pf : Lean.Expr) : MetaM Lean.Expr := do
  return mkConst (← withOptions (Elab.async.set · false) (mkAuxLemma [] ty pf (cache := false)))


theorem cat0 {f : OsState → Addr → Option Obj} : (fun os => List.map (f os) []) = fun _ => [] := rfl
theorem cat1 {f : OsState → Addr → Option Obj} {a b : List Addr} {x y : List (Option Obj)} (h : (fun os => List.map (f os) a) = fun _ => x) (k : (fun os => List.map (f os) b) = fun _ => y) :
    (fun os => List.map (f os) (List.append a b)) = fun _ => List.append x y := funext fun os => by
  have h1 : List.map (f os) a = x := congrFun h os
  have k1 : List.map (f os) b = y := congrFun k os
  show List.map (f os) (a ++ b) = x ++ y
  rw [List.map_append, h1, k1]

/-- the elements of a list written out -/
def elemsOf : Nat → Lean.Expr → List Lean.Expr
  | 0, _ => []
  | n + 1, e => if e.isAppOfArity ``List.cons 3 then e.appFn!.appArg! :: elemsOf n e.appArg! else []

open Lean Meta Elab in
/-- the objects written out, some at a time -/
def obsBy (l r : Lean.Expr) : MetaM Lean.Expr := do
  let optO := mkApp (mkConst ``Option [0]) (mkConst ``Obj)
  let (as, kl, st) ← withLocalDeclD `w (mkConst ``World) fun w => withLocalDeclD `os (mkConst ``OsState) fun os => do
    let a := (mkApp2 l w os).headBeta
    let H ← whnfCore (← instantiateMVars a.appFn!.appArg!)
    unless H.isAppOf ``kHook do throwError "obsBy: no table"
    let (K, as) := (H.getAppArgs[0]!, H.getAppArgs[1]!)
    let as ← if as.isConst then pure ((← unfoldDefinition? as).getD as) else pure as
    let .lam _ _ kb _ := ((← unfoldDefinition? K).getD K) | throwError "obsBy: no lambda"
    pure (elemsOf 100000 as, elemsOf 100000 kb, ← mkLambdaFVars #[w, os] a.appArg!)
  unless as.length == kl.length && as.length > 0 do throwError "obsBy: the lists"
  let n := 16
  let mut i := 0
  let mut parts : Array (Lean.Expr × (Lean.Expr → Lean.Expr) × Lean.Expr) := #[]
  while i < as.length do
    let (ai, ki) := (listE (mkConst ``Nat) ((as.drop i).take n), (kl.drop i).take n)
    let xi (w : Lean.Expr) : Lean.Expr := listE optO (ki.map fun e => mkApp2 (mkConst ``Option.some [0]) (mkConst ``Obj) (e.appArg!.instantiate1 (mkApp (mkConst ``World.params) w)))
    let P ← withLocalDeclD `w (mkConst ``World) fun w => withLocalDeclD `os (mkConst ``OsState) fun os => do
      let f := mkApp (mkConst ``Heap.get?) (mkApp (mkConst ``Shared.heap) (mkApp2 st w os).headBeta)
      let lhs := mkApp4 (mkConst ``List.map [0, 0]) (mkConst ``Nat) optO f ai
      mkLambdaFVars #[w] (← mkEq (← mkLambdaFVars #[os] lhs) (← mkLambdaFVars #[os] (xi w)))
    parts := parts.push (ai, xi, ← byKernelQuick P [])
    i := i + n
  let tq2 ← IO.monoMsNow
  let (ty, pf) ← withLocalDeclD `w (mkConst ``World) fun w => do
    let f ← withLocalDeclD `os (mkConst ``OsState) fun os => do mkLambdaFVars #[os] (mkApp (mkConst ``Heap.get?) (mkApp (mkConst ``Shared.heap) (mkApp2 st w os).headBeta))
    let mut pf := mkApp (mkConst ``cat0) f
    let mut b := listE (mkConst ``Nat) []
    let mut y := listE optO []
    for (ai, xi, e) in parts.toList.reverse do
      pf := mkAppN (mkConst ``cat1) #[f, ai, b, xi w, y, mkApp e w, pf]
      b := mkApp3 (mkConst ``List.append [0]) (mkConst ``Nat) ai b
      y := mkApp3 (mkConst ``List.append [0]) optO (xi w) y
    pure (← mkForallFVars #[w] (← mkEq (mkApp l w).headBeta (mkApp r w).headBeta), ← mkLambdaFVars #[w] pf)
  let e ← sideThm ty pf
  return e

open Lean Meta Elab in
/-- the looks at the end, pair by pair -/
def looksBy : Nat → Lean.Expr → Lean.Expr → MetaM Lean.Expr
  | 0, _, _ => throwError "looks: fuel"
  | n + 1, l, r => do
    let parts ← withLocalDeclD `w (mkConst ``World) fun w => withLocalDeclD `os (mkConst ``OsState) fun os => do
      let un (e : Lean.Expr) : MetaM Lean.Expr := do
        let e := (mkApp2 e w os).headBeta
        if e.isAppOf ``openSeen || e.isAppOf ``openGood then return (← unfoldDefinition? e).getD e else return e
      let (a, b) := (← un l, ← un r)
      if a.isAppOfArity ``Prod.mk 4 && b.isAppOfArity ``Prod.mk 4 then
        let f (e : Lean.Expr) (i : Nat) := mkLambdaFVars #[w, os] e.getAppArgs[i]!
        return some (← f a 2, ← f a 3, ← f b 2, ← f b 3)
      return none
    match parts with
    | some (a1, a2, b1, b2) =>
      let x ← looksBy n a1 b1
      let y ← looksBy n a2 b2
      let (ty, pf) ← withLocalDeclD `w (mkConst ``World) fun w => withLocalDeclD `os (mkConst ``OsState) fun os => do
        let pf ← mkAppM ``looks_pair #[mkApp2 x w os, mkApp2 y w os]
        pure (← mkForallFVars #[w, os] (← mkEq (mkApp2 l w os).headBeta (mkApp2 r w os).headBeta), ← mkLambdaFVars #[w, os] pf)
      sideThm ty pf
    | none =>
      let P ← withLocalDeclD `w (mkConst ``World) fun w => do mkLambdaFVars #[w] (← mkEq (mkApp l w).headBeta (mkApp r w).headBeta)
      let tq ← IO.monoMsNow
      let isH ← withLocalDeclD `w (mkConst ``World) fun w => withLocalDeclD `os (mkConst ``OsState) fun os => pure ((mkApp2 l w os).headBeta.isAppOf ``Hook.obs)
      let e ← if isH then obsBy l r else byKernelQuick P []
      let tq2 ← IO.monoMsNow
      withLocalDeclD `w (mkConst ``World) fun w => withLocalDeclD `os (mkConst ``OsState) fun os => do
        mkLambdaFVars #[w, os] (← mkAppM ``congrFun #[mkApp e w, os])

open Lean Meta Elab in
/-- a heap's objects as a tree, each branch of some levels a name of its own -/
def treeBy (memo : IO.Ref (Std.HashMap Lean.Expr Lean.Expr)) (os : Array Lean.Expr) (p : Lean.Expr) : Nat → Nat → Nat → Nat → MetaM Lean.Expr
  | 0, _, _, _ => throwError "treeBy: fuel"
  | n + 1, lvl, a, b => do
    let some o := os[b]? | return mkConst ``BT.nil
    let l ← treeBy memo os p n (lvl + 1) (2 * a) (a + b)
    let r ← treeBy memo os p n (lvl + 1) (2 * a) (2 * a + b)
    let node := mkApp3 (mkConst ``BT.node) (mkApp o p) l r
    if lvl == 0 || lvl % 4 != 0 then return node
    let v ← mkLambdaFVars #[p] node
    match (← memo.get)[v]? with
    | some c => return mkApp c p
    | none =>
      let c ← defAt `br (← mkArrow (mkConst ``Params) (mkConst ``BT)) v
      memo.modify (·.insert v c)
      return mkApp c p

open Lean Meta Elab in
/-- a heap's objects as a list, each run of some objects a name of its own -/
def runsBy (os : List Lean.Expr) (p : Lean.Expr) : MetaM Lean.Expr := do
  let O := mkConst ``Obj
  let mut l := mkApp (mkConst ``List.nil [0]) O
  let mut i := os.length
  for o in os.reverse do
    i := i - 1
    l := mkApp3 (mkConst ``List.cons [0]) O (mkApp o p) l
    if i > 0 && i % 32 == 0 then
      l := mkApp (← defAt `run (← mkArrow (mkConst ``Params) (mkApp (mkConst ``List [0]) O)) (← mkLambdaFVars #[p] l)) p
  return l

open Lean Meta Elab in
def sameWorlds (s s' : Shared) : MetaM Unit := do
  unless toExpr s.drawn == toExpr s'.drawn && s.toks == s'.toks do throwError "the two sample worlds part"

open Lean Meta Elab in
def stateH (old : Array (Obj × Obj × Lean.Expr)) (s s' : Shared) : MetaM (Array (Obj × Obj × Lean.Expr) × W.State) := do
  sameWorlds s s'
  let objs ← layObjs old s s'
  let v ← withLocalDeclD `P (mkConst ``Params) fun p => do
    mkLambdaFVars #[p] (mkApp2 (mkConst ``Heap.mk) (mkApp2 (mkConst ``Array.mk [0]) (mkConst ``Obj) (← runsBy (objs.toList.map (·.2.2)) p)) (toExpr s.heap.life))
  let h ← defAt `heap (← mkArrow (mkConst ``Params) (mkConst ``Heap)) v
  return (objs, { heap := h, gens := ← gensE s s', drawn := toExpr s.drawn, toks := mkRawNatLit s.toks })

open Lean Meta Elab in
def stateT (memo : IO.Ref (Std.HashMap Lean.Expr Lean.Expr)) (old : Array (Obj × Obj × Lean.Expr)) (s s' : Shared) : MetaM (Array (Obj × Obj × Lean.Expr) × W.State) := do
  sameWorlds s s'
  let objs ← layObjs old s s'
  let v ← withLocalDeclD `P (mkConst ``Params) fun p => do mkLambdaFVars #[p] (← treeBy memo (objs.map (·.2.2)) p 64 0 1 0)
  let t ← defAt `tree (← mkArrow (mkConst ``Params) (mkConst ``BT)) v
  return (objs, { heap := default, gens := ← gensE s s', drawn := toExpr s.drawn, toks := mkRawNatLit s.toks, tree := some (t, mkRawNatLit s.heap.objs.size, toExpr s.heap.life) })

open Lean Meta Elab in
def leftWhole (g : MVarId) (pE : Lean.Expr) (p : Program) (_ : List String) : MetaM Unit := g.withContext do
  let tm0 ← IO.monoMsNow
  let memo ← IO.mkRef ({} : Std.HashMap Lean.Expr Lean.Expr)
  let T := (← instantiateMVars (← g.getType)).consumeMData
  unless T.isAppOf ``LeftO do throwError "no LeftO"
  let a := T.getAppArgs
  let (q, loose, Xt, al, Yf, Ya, NE, g0) := (a[1]!, a[2]!, a[3]!, a[4]!, a[5]!, a[6]!, a[7]!, a[8]!)
  let some N ← (Meta.evalNat NE).run | throwError "N"
  let (t, t') ← match ← traceTop p N 1, ← traceTop p N 2 with
    | .ok t, .ok t' => pure (t, t')
    | _, _ => throwError "the top does not end"
  let tb := mkConst ``treeTable
  let m0 := natE t.s0.heap.objs.size
  let annE := toExpr t.ann
  -- the opening: the library's own theorem
  let main ← mkAppM ``Program.main #[pE]
  let scope ← mkAppM ``Module.scope #[main]
  let opn ← mkAppM ``opening #[pE]
  let (ic, ic') ← match ← impCutsNow p 1, ← impCutsNow p 2 with
    | .ok a, .ok b => pure (a, b)
    | _, _ => throwError "the opening"
  let (cuts, left, se, rl) := ic
  let (cuts', left', se', rl') := ic'
  let steps := cuts.foldl (fun n c => n + c.1) left
  unless steps == cuts'.foldl (fun n c => n + c.1) left' do throwError "the opening parts"
  let irows := (cuts.foldl (fun l c => l ++ c.2.2) rl ++ cuts'.foldl (fun l c => l ++ c.2.2) rl').eraseDups
  let stE ← mkAppM ``start #[opn]
  let os0 ← mkAppM ``Shared.os #[← mkAppM ``Prod.fst #[stE]]
  let (oe, Se) ← stateH #[] se se'
  let MB := natE (steps + 1)
  let hEP ← withLocalDeclD `w (mkConst ``World) fun w => do
    let l := mkAppN (mkConst ``importEnds) #[tb, opn, w, MB, ← mkAppM ``Prod.fst #[stE], ← mkAppM ``Prod.snd #[stE]]
    mkLambdaFVars #[w] (← mkEq l (← mkAppM ``some #[Se.at w os0]))
  let hE ← byKernelQuick hEP irows
  let (o0, S0) ← stateH oe t.s0 t'.s0
  let (fs, _, _) ← forallMetaTelescope (← inferType (mkConst ``open_cut))
  for (m, v) in fs.zip #[pE, NE, MB, Se.heap, S0.heap, Se.gens, S0.gens, Se.drawn, S0.drawn, Se.toks, S0.toks] do m.mvarId!.assign v
  let .forallE fn fd fb fi ← instantiateMVars (← inferType fs[13]!) | throwError "the fence"
  let fE ← byKernelQuick (.lam fn fd fb fi) []
  let leE ← mkDecideProof (← instantiateMVars (← inferType fs[12]!))
  let boot := mkAppN (mkConst ``open_cut) #[pE, NE, MB, Se.heap, S0.heap, Se.gens, S0.gens, Se.drawn, S0.drawn, Se.toks, S0.toks, hE, leE, fE]
  -- the block's frame
  let bE ← mkAppM ``behindTheImports #[pE]
  let envV ← Term.TermElabM.run' do
    let pS ← Term.exprToSyntax scope
    let cS ← Term.exprToSyntax (toExpr t.code)
    let e ← Term.withSynthesize (Term.elabTermEnsuringType (← `(({ scope := $pS, locals := mainNs, globals := mainNs, cells := [], code := $cS, frame := some $(quote t.frame) } : Env))) (mkConst ``Env))
    instantiateMVars e
  let some cells ← cellsD? bE | throwError "the body"
  unless cells.length == t.pieces.length do throwError "the body"
  let qE := toExpr t.framePos
  let envE ← defAt `env (mkConst ``Env) envV
  let cE := mkApp2 (mkConst ``Code.body) bE envE
  let B := listE (mkConst ``Frame) [mkApp (mkConst ``topFrame) qE]
  let rst (n : Lean.Expr) (f : Name) (w : Lean.Expr) (extra : Array Lean.Expr) (s th : Lean.Expr) := mkAppN (mkConst f) (#[tb, pE, w, m0, annE] ++ extra ++ #[n, s, th])
  let one := natE 1
  let stub := mkApp (mkConst ``topStub) pE
  let ends (s : Lean.Expr) (pos : Lean.Expr) : MetaM Lean.Expr := do mkAppM ``some #[← mkAppM ``Prod.mk #[mkConst ``Flow.next, ← mkAppM ``Prod.mk #[s, ← mkAppM ``Prod.mk #[cE, pos]]]]
  -- up to the block
  let (o, Sa) ← stateH o0 t.pre.s t'.pre.s
  let pre ← byPiece (t.pre.rows ++ t'.pre.rows).eraseDups (fun w os => pure (rst (natE t.pre.steps) ``topGo w #[] (S0.at w os) stub)) fun w os => do
    mkAppM ``some #[← mkAppM ``Prod.mk #[Sa.at w os, mkApp4 (mkConst ``Thread.mk) (mkApp2 (mkConst ``denote) tb cE) cE (toExpr t.pre.pos) B]]
  let (o, Sb) ← stateT memo o t.block.s t'.block.s
  let block ← byPiece (t.block.rows ++ t'.block.rows).eraseDups (fun w os => pure (rst (natE t.block.steps.succ) ``segRun w #[one] (Sa.at w os) (mkAppN (mkConst ``blockOf) #[bE, envE, cE, toExpr t.pre.pos, B]))) fun w os => ends (Sb.at w os) (toExpr t.block.pos)
  let tm1 ← IO.monoMsNow
  -- the statements, some at a time, none cut
  let mut groups : Array (List Lean.Expr × Nat × Snap × Snap × List String) := #[]
  for (st, x, x') in cells.zip (t.pieces.zip t'.pieces) do
    let n := max x.steps x'.steps
    let rows := (x.rows ++ x'.rows).eraseDups
    match groups.back? with
    | some (l, m, _, _, rs) =>
      if m + n ≤ 6500 && rows.isEmpty && rs.isEmpty then groups := groups.pop.push (l ++ [st], m + n, x, x', [])
      else groups := groups.push ([st], n, x, x', rows)
    | none => groups := groups.push ([st], n, x, x', rows)
  let mut o := o
  let mut S := Sb
  let mut pos := t.block.pos
  let mut lems : Array (Lean.Expr × W.State × Pos × W.State × Nat × Pos × Lean.Expr) := #[]
  for (sts, n, x, x', rows) in groups do
    let tp0 ← IO.monoMsNow
    let stE ← defAt `sts (mkApp (mkConst ``List [0]) (mkConst ``Stmt)) (listE (mkConst ``Stmt) (← sts.mapM fun st => defAt `st (mkConst ``Stmt) st))
    let (o', S') ← stateT memo o x.s x'.s
    let (S1, pos1) := (S, pos)
    let th : Lean.Expr := mkAppN (mkConst ``piecesOf) #[stE, envE, cE, toExpr pos1, B]
    let lem ← liftT (← byPiece rows (fun w os => pure (rst (natE n.succ) ``segRunT w #[one] (S1.atT w os) th)) fun w os => ends (S'.atT w os) (toExpr x.pos)) ``segRun_of
    lems := lems.push (stE, S1, pos1, S', n, x.pos, lem)
    o := o'
    S := S'
    pos := x.pos
    let tp1 ← IO.monoMsNow
  let tm2 ← IO.monoMsNow
  let (_, Sf) ← stateH o t.fin.s t'.fin.s
  let (Sm, posm) := (S, pos)
  let fin ← byPiece (t.fin.rows ++ t'.fin.rows).eraseDups (fun w os => pure (rst (natE t.fin.steps.succ) ``topRun w #[] (Sm.at w os) (mkApp4 (mkConst ``Thread.mk) (mkApp (mkConst ``doneF) (mkConst ``Flow.next)) cE (toExpr posm) B))) fun w os => mkAppM ``some #[Sf.at w os]
  -- the chain
  let mut M := natE t.fin.steps.succ
  for (_, _, _, _, n, _, _) in lems.toList.reverse do M := mkApp2 (mkConst ``Nat.add) (natE n.succ) M
  let Mall := mkApp2 (mkConst ``Nat.add) (natE t.pre.steps) (mkApp2 (mkConst ``Nat.add) (natE t.block.steps.succ) M)
  let run ← withLocalDeclD `w (mkConst ``World) fun w => withLocalDeclD `os (mkConst ``OsState) fun os => do
    let atW (l : Lean.Expr) : MetaM Lean.Expr := do mkAppM ``congrFun #[mkApp l w, os]
    let r := Sf.at w os
    let mut k ← atW fin
    let mut N' := natE t.fin.steps.succ
    let mut rest := listE (mkConst ``Stmt) []
    let common := #[tb, pE, w, m0, annE, envE, qE]
    for (stE, S1, pos1, S', n, pos2, lem) in lems.toList.reverse do
      k := mkAppN (mkConst ``piece_app) (common ++ #[natE n.succ, N', S1.at w os, S'.at w os, r, stE, rest, cE, toExpr pos1, toExpr pos2, ← atW lem, k])
      N' := mkApp2 (mkConst ``Nat.add) (natE n.succ) N'
      rest ← mkAppM ``HAppend.hAppend #[stE, rest]
    k := mkAppN (mkConst ``piece_block) (common ++ #[natE t.block.steps.succ, N', Sa.at w os, Sb.at w os, r, bE, cE, toExpr t.pre.pos, toExpr t.block.pos, ← atW block, k])
    N' := mkApp2 (mkConst ``Nat.add) (natE t.block.steps.succ) N'
    k := mkAppN (mkConst ``go_top) (#[tb, pE, w, m0, annE, natE t.pre.steps, N', S0.at w os, Sa.at w os, r, stub, mkApp4 (mkConst ``Thread.mk) (mkApp2 (mkConst ``denote) tb cE) cE (toExpr t.pre.pos) B, ← atW pre, k])
    let ty ← mkEq (rst Mall ``topRun w #[] (S0.at w os) stub) (← mkAppM ``some #[r])
    pure (← mkForallFVars #[w, os] ty, ← mkLambdaFVars #[w, os] k)
  let runN ← sideThm run.1 run.2
  let tm3 ← IO.monoMsNow
  let e := mkConst ``LeftO.of_pieces
  let (ms, _, _) ← forallMetaTelescope (← inferType e)
  let vals := #[pE, q, loose, Xt, al, Yf, Ya, NE, g0, S0.heap, Sf.heap, S0.gens, Sf.gens, S0.drawn, Sf.drawn, S0.toks, Sf.toks, m0, annE, Mall]
  for (m, v) in ms.zip vals do m.mvarId!.assign v
  let sizeTy ← instantiateMVars (← inferType ms[21]!)
  let looksTy ← instantiateMVars (← inferType ms[24]!)
  let .forallE sn sd sb bi := sizeTy | throwError "a look"
  let size ← byKernelQuick (.lam sn sd sb bi) []
  let .forallE _ _ bd _ := looksTy | throwError "a look"
  let (l, r) ← withLocalDeclD `w (mkConst ``World) fun w => do
    let some (_, l, r) := (bd.instantiate1 w).eq? | throwError "a look"
    pure (← mkLambdaFVars #[w] l, ← mkLambdaFVars #[w] r)
  let h ← looksBy 12 l r
  let looks ← withLocalDeclD `w (mkConst ``World) fun w => do
    let f ← withLocalDeclD `os (mkConst ``OsState) fun os => do mkLambdaFVars #[os] (mkApp2 h w os)
    mkLambdaFVars #[w] (← mkAppM ``funext #[f])
  let le ← mkDecideProof (← instantiateMVars (← inferType ms[23]!))
  g.assign (mkAppN e (vals ++ #[boot, size, runN, le, looks]))
  let tm4 ← IO.monoMsNow
  logInfo m!"HEAD {groups.size} pieces: opening {tm1 - tm0} ms, pieces {tm2 - tm1}, chain {tm3 - tm2}, looks {tm4 - tm3}"

theorem ready : True := by
  run_tac (PySem.W.leftPieces.set (some leftWhole) : IO Unit)
  trivial

set_option maxRecDepth 100000 in
set_option maxHeartbeats 8000000 in
open_top hd for PySem.Challenge.rw_fh5025_01

section
open PySem PySem.W PySem.Spec PySem.Calls PyProof.Rows
set_option maxRecDepth 100000
theorem kind_hasattr : builtinKind "hasattr" = none := by decide +kernel
theorem plain_hasattr : plainId "hasattr" = true := by decide +kernel
theorem entry_hasattr : entryFor table "hasattr" = some Builtin.«hasattr» := entryFor_of_tree (by kernel_rfl)
theorem args_hasattr (a b : Value) : argsOk "hasattr" ⟨[a, b], []⟩ := by unfold argsOk; kernel_rfl

section
variable {prog : Program} {w : World} {A : Around} {E : Value → Shared → Prop} {s : Shared} {K : Frag} {C : Addr} {name : Str} {t : Tok}

/-- the part of hasattr ahead of the look itself, on a class -/
theorem hasattr_open {Q : Value → Shared → Prop} (X : K.In s.heap) (ht : typeIn K (.ref C) = some (.type "type")) (hn : fastLookup "type" name = some none)
    (hm : instIn K (.ref C) (.type "module") = some false)
    (h : wpAny (model prog w) A.in1 (getAttrBy? (.ref C) (.str name t)) (fun r s' => Q (.bool r.isSome) s') E s) :
    wpAny (model prog w) A (call (.builtin "hasattr") [.ref C, .str name t]) Q E s := by
  refine call_function_entry kind_hasattr plain_hasattr entry_hasattr (args_hasattr _ _) ?_
  unfold Builtin.«hasattr»
  refine wpAny_bind (m := someArgs "hasattr" 2 2 _) (wpAny_pure ?_)
  dsimp only
  refine wpAny_bind (wpAny_pure ?_)
  rw [if_neg (fun q => nomatch q)]
  refine wpAny_bind ((looks_typeIn X ht).here ?_)
  dsimp only
  refine wpAny_bind (wpAny_pure ?_)
  dsimp only
  refine wpAny_bind ((looks_findIn (t := .type "type") X hn).here ?_)
  dsimp only
  refine wpAny_bind ?_
  refine wpAny_bind (m := asStr? (.str name t)) (wpAny_pure ?_)
  dsimp only
  refine wpAny_bind ?_
  refine (looks_instIn X hm).here ?_
  rw [if_pos (show (!false) = true from rfl)]
  refine wpAny_pure ?_
  rw [if_neg (by decide)]
  refine wpAny_bind (wpAny_mono h (fun r s' hq => ?_) fun _ _ z => z)
  rw [if_neg (by simp)]
  exact wpAny_pure ⟨_, rfl, hq⟩

/-- getattr of a class by a name, whatever its `__getattribute__` does -/
theorem getBy_open {Q : Value → Shared → Prop} (X : K.In s.heap) (ht : typeIn K (.ref C) = some (.type "type")) (hga : findIn K (.type "type") "__getattribute__" = some (some (.builtin "type.__getattribute__")))
    (hi : subIn K (.type "type") (.type "type") = some true)
    (h : wpAny (model prog w) A.in1 (Builtin.«type.__getattribute__» ⟨[.ref C, .str name t], []⟩)
      (fun fin s' => match fin with | .done (.ret v) => wpAny (model prog w) A (handedOut v) Q E s' | _ => False)
      (fun e s' => wpAny (model prog w) A (getattributeRaised (.ref C) (.str name t) (.type "type") e none false false) Q E s') s) :
    wpAny (model prog w) A (getAttrBy (.ref C) (.str name t) false) Q E s := by
  unfold getAttrBy
  refine wpAny_holding (wpAny_bind ((looks_typeIn X ht).here (wpAny_bind ((looks_findIn (t := .type "type") X hga).here ?_))))
  dsimp only
  rw [if_neg (by decide)]
  unfold getAttrByItsOwn
  refine wpAny_bind (wpAny_pure (wpAny_bind (wpAny_attempt (wpAny_holding ?_))))
  unfold callGetattribute
  rw [if_neg (by decide)]
  unfold boundAndCalled
  rw [KF.slot_tga.bind]
  refine wpAny_bind (wpAny_pure ?_)
  show wpAny _ _ (call (.builtin "type.__getattribute__") [.ref C, .str name t]) _ _ _
  refine wpAny_call (codeAny_call_builtin KF.slot_tga.plain KF.entry_tga ?_)
  refine @check_slot (model prog w) _ _ s "type.__getattribute__" "type" "__getattribute__" (.ref C) [.str name t] [] _ (by decide +kernel) (by decide +kernel) ((looks_typeIn X ht).andThen (looks_subIn X hi)) (KF.args_tga (.ref C) (.str name t)) ?_
  refine wpAny_mono h (fun fin s' z => ?_) fun e s' z => z
  rcases fin with (_ | _ | _ | _) | _ <;> first | exact z | exact z.elim

theorem hasattr_hit {v : Value} {Q : Value → Shared → Prop} (X : K.In s.heap) (hr : readsIn K C (.type "type") = true) (e : findCls K (.ref C) (.type "type") name = some (.val v)) (hh : handedIn v = true)
    (hn : fastLookup "type" name = some none) (hm : instIn K (.ref C) (.type "module") = some false) (h : Q (.bool true) s) :
    wpAny (model prog w) A (call (.builtin "hasattr") [.ref C, .str name t]) Q E s := by
  simp only [readsIn, Bool.and_eq_true, beq_iff_eq] at hr
  obtain ⟨⟨⟨⟨a, b⟩, c'⟩, d⟩, f⟩ := hr
  refine hasattr_open X b hn hm ?_
  unfold getAttrBy?
  refine wpAny_bind (wpAny_attempt (getBy_open X b c' f (tga_run X (looks_opaque X a) (looks_typeIn X b) e (wpAny_pure ?_))))
  dsimp only
  rw [handedOut_of hh]
  exact wpAny_pure (wpAny_pure h)
end
end

section
open PySem PySem.W PySem.Spec PySem.Calls PyProof.Rows
set_option maxRecDepth 100000
section
variable {prog : Program} {w : World} {A : Around} {E : Value → Shared → Prop} {s : Shared} {K : Frag} {C : Addr} {name : Str} {t : Tok}

def missText (n name : Str) : Str := (s!"type object '{n.toString}' has no attribute '" : Str) ++ name ++ "'"

structure NewAttrErr (h h' : Heap) (e : Addr) : Prop where
  keeps : ∀ b o, h.get? b = some o → h'.get? b = some o
  new : h.get? e = none
  there : ∃ ob, h'.get? e = some ob ∧ ob.cls = .type "AttributeError"

theorem raise_attr {α : Type} {M : Model} {msg : Str} {Q : α → Shared → Prop} (hh : A.handled = none) (hm : msg.length ≤ sizeLine)
    (h : ∀ h' tk e, NewAttrErr s.heap h' e → E (.ref e) { s with heap := h', toks := tk }) : wpAny M A (raiseErrorStr "AttributeError" msg : Sem α) Q E s := by
  unfold raiseErrorStr
  refine wpAny_bind (wpAny_mkStr (wpAny_bind ?_) hm)
  unfold newExc newTuple
  refine wpAny_bind (wpAny_newObj_type ?_)
  refine wpAny_bind (m := firstArgMember _ _) (wpAny_of_eq (a := Value.none) (by simp only [firstArgMember, show ((Manifest.find? "AttributeError").elim false fun t => t.mro.contains "StopIteration" || t.mro.contains "SystemExit") = false from by decide +kernel]; rfl) ?_)
  refine wpAny_newObj_type ?_
  refine wpAny_raiseNew_none hh ?_
  exact h _ _ _ ⟨fun b o hb => Heap.get?_push_of_some _ (Heap.get?_push_of_some _ hb), Heap.get?_none_of_le (by simp), _, Heap.get?_push_size _ rfl, rfl⟩

theorem tga_miss {cd : ClassData} {Q : Fin → Shared → Prop} (X : K.In s.heap) (ho : nsIn K cStatics "thirdparty.any" = some none) (ht : typeIn K (.ref C) = some (.type "type"))
    (hn : findIn K (.type "type") name = some none) (hc : findIn K (.ref C) name = some none) (hd : clsIn K C = some cd) (hl : cd.name.cps.foldl (fun k c => k + (Str.utf8Of c).length) 0 ≤ 100)
    (hm : (missText cd.name name).length ≤ sizeLine) (hh : A.handled = none)
    (h : ∀ h' tk e, NewAttrErr s.heap h' e → E (.ref e) { s with heap := h', toks := tk }) : wpAny (model prog w) A (Builtin.«type.__getattribute__» ⟨[.ref C, .str name t], []⟩) Q E s := by
  unfold Builtin.«type.__getattribute__»
  refine wpAny_bind (wpAny_pure (wpAny_bind ((looks_opaque X ho).here (wpAny_bind ((looks_typeIn X ht).here (wpAny_bind ((looks_findIn (t := .type "type") X hn).here ?_)))))))
  dsimp only
  refine wpAny_bind (wpAny_pure ?_)
  refine wpAny_bind ((looks_findIn X hc).here ?_)
  dsimp only
  refine wpAny_bind (wpAny_rule ?_)
  refine wpAny_bind ?_
  unfold typeNameCut
  refine wpAny_bind ((looks_clsIn X hd).here ?_)
  rw [if_pos hl]
  exact wpAny_pure (raise_attr hh hm h)

theorem isInst_attr {e : Addr} {Q : Bool → Shared → Prop} {h : Heap} (x : NewAttrErr h s.heap e) (q : Q true s) : wpAny (model prog w) A (isInstance (.ref e) (.type "AttributeError")) Q E s := by
  obtain ⟨ob, h1, h2⟩ := x.there
  exact wpAny_isInstance ⟨ob, h1, h2⟩ (by rw [isSubtype_type]; kernel_rfl) q

theorem hasattr_miss {cd : ClassData} {Q : Value → Shared → Prop} (X : K.In s.heap) (hr : readsIn K C (.type "type") = true) (hn : fastLookup "type" name = some none) (hc : findIn K (.ref C) name = some none)
    (hd : clsIn K C = some cd) (hl : cd.name.cps.foldl (fun k c => k + (Str.utf8Of c).length) 0 ≤ 100) (hmt : (missText cd.name name).length ≤ sizeLine)
    (hm : instIn K (.ref C) (.type "module") = some false) (hh : A.handled = none)
    (h : ∀ h' tk e, NewAttrErr s.heap h' e → Q (.bool false) { s with heap := h', toks := tk }) :
    wpAny (model prog w) A (call (.builtin "hasattr") [.ref C, .str name t]) Q E s := by
  simp only [readsIn, Bool.and_eq_true, beq_iff_eq] at hr
  obtain ⟨⟨⟨⟨a, b⟩, c'⟩, d⟩, f⟩ := hr
  refine hasattr_open X b hn hm ?_
  unfold getAttrBy?
  refine wpAny_bind (wpAny_attempt (getBy_open X b c' f (tga_miss X a b hn hc hd hl hmt hh fun h' tk e x => ?_)))
  unfold getattributeRaised
  refine wpAny_bind (isInst_attr x ?_)
  rw [if_pos rfl]
  unfold hookBehind
  rw [if_neg (by decide)]
  refine wpAny_bind ((looks_findIn (K := K) (t := .type "type") (name := "__getattr__") (r := none) (X.keeps x.keeps) (by show fastLookup _ _ = _; decide +kernel)).here ?_)
  unfold hookOrError attributeErrorLeaves
  dsimp only
  rw [if_pos (show (!false) = true from rfl)]
  refine wpAny_bind (wpAny_throw ?_)
  refine wpAny_bind (isInst_attr x ?_)
  rw [if_pos rfl]
  exact wpAny_pure (h h' tk e x)
end
end

section
open PySem PySem.W PySem.Spec PySem.Calls PyProof.Rows
set_option maxRecDepth 100000
section
variable {prog : Program} {w : World} {A : Around} {E : Value → Shared → Prop} {s : Shared} {K : Frag} {C : Addr}

theorem looks_isType {M : Model} {cd : ClassData} (X : K.In s.heap) (hd : clsIn K C = some cd) : Looks M s.heap (isType (.ref C)) true := by
  intro A Q E s k q
  unfold clsIn at hd
  split at hd
  · rename_i c d cd' sl e
    refine wpAny_bind (wpAny_loadPart (k _ _ (X _ _ e)) ?_)
    exact wpAny_pure q
  · cases hd

theorem issub_call {d : Value} {r : Bool} {Q : Value → Shared → Prop} {cd : ClassData} (X : K.In s.heap) (hc : clsIn K C = some cd) (ht : typeIn K (.ref C) = some (.type "type"))
    (hd : Looks (model prog w) s.heap (isType d) true) (hs : subIn K d (.ref C) = some r) (h : Q (.bool r) s) :
    wpAny (model prog w) A (call (.builtin "issubclass") [d, .ref C]) Q E s := by
  refine wpAny_call (codeAny_call_builtin F.plain_issubclass F.entry_issubclass ?_)
  simp only [checkBuiltinCall, F.kind_issubclass]
  have fin : wpAny (model prog w) A.in1 (Builtin.«issubclass» ⟨[d, .ref C], []⟩)
      (fun fin s' => match fin with
        | .done f => (match (Except.ok f : Result) with | .ok (.ret v) => Q v s' | .ok _ => False | .error e => E e s')
        | .again c' => c'.quiet = true ∧ codeAny (model prog w) A c' (fun r s' => match r with | .ok (.ret v) => Q v s' | .ok _ => False | .error e => E e s') s')
      (fun e s' => E e s') s := by
    refine issubclass_outer (R := fun r s' => match r with | .ok (.ret v) => Q v s' | .ok _ => False | .error e => E e s') ?_
    unfold Builtin.«issubclass.nested» rawInt
    dsimp only
    refine wpAny_bind ((looks_typeIn X ht).here ?_)
    rw [if_pos (by decide)]
    refine wpAny_bind ?_
    refine wpAny_bind (m := isType d) (hd.here ?_)
    refine wpAny_bind (m := isType (.ref C)) ((looks_isType X hc).here ?_)
    rw [if_pos (by decide)]
    exact (looks_subIn X hs).here (wpAny_pure h)
  have ha := F.args_issubclass_2 d (.ref C)
  cases hsig : Manifest.signature? "issubclass" with
  | none => exact wpAny_pure fin
  | some sig =>
    simp only [argsOk, hsig] at ha
    show wpAny _ A.in1 (Bind.checkArgs "issubclass" sig ⟨[d, .ref C], []⟩) _ _ s
    rw [show Bind.checkArgs "issubclass" sig ⟨[d, .ref C], []⟩ = pure () from ha]
    exact wpAny_pure fin
end
end

section
open PySem PySem.W PySem.Spec PySem.Calls PyProof.Rows Builtin Builtin.ObjectAttr Builtin.Getset_descriptor
set_option maxRecDepth 100000
def nameIn (K : Frag) (C : Addr) : Option Value := (K.lookup C).bind fun o => (o.slots[2]?).bind id
section
variable {prog : Program} {w : World} {A : Around} {E : Value → Shared → Prop} {s : Shared} {K : Frag} {C : Addr} {R : Result → Shared → Prop}

theorem cname_get {tp v : Value} (X : K.In s.heap) (ht : typeIn K (.ref C) = some (.type "type")) (hi : subIn K (.type "type") (.type "type") = some true) (hn : nameIn K C = some v)
    (h : R (.ok (.ret v)) s) : codeAny (model prog w) A (.call (.builtin "getset_descriptor.__get__") ⟨[.builtin "type.__name__", .ref C, tp], []⟩) R s := by
  obtain ⟨o, ho, hs⟩ := Option.bind_eq_some_iff.mp hn
  have hg := X _ _ ho
  obtain ⟨hh, g, dr, t, os⟩ := s
  dsimp only at hg X
  have L0 : Looks (model prog w) hh (typeOf (.ref C)) (.type "type") := looks_typeIn X ht
  have L1 : Looks (model prog w) hh (isSubtype (.type "type") (.type "type")) true := looks_subIn X hi
  refine codeAny_call_builtin KF.slot_gs.plain KF.entry_gs (KF.slot_gs.check _ _ _ _ _ _ _ _ ktyn_type (KF.args_gs _ _ _) ?_)
  unfold Builtin.«getset_descriptor.__get__» descrGet
  rw [dga_obj]
  refine wpAny_bind (wpAny_pure ?_)
  unfold descrGetter descrCheckInstance descrNameAndClass isInstance
  simp only [ktyn_owner]
  repeat lk
  refine ⟨Code.quiet_builtin _ (by decide +kernel), codeAny_builtin ktyn_entry ?_⟩
  unfold Builtin.«type.__name__»
  dsimp only
  unfold keptObject
  dsimp only
  refine wpAny_bind (wpAny_bind (wpAny_loadPart hg (wpAny_pure ?_)))
  rw [show (o.slots[2]?).join = some v from by rw [← hs]; cases o.slots[2]? <;> rfl]
  exact wpAny_pure h

theorem cname_attr {v : Value} {expr : Bool} {Q : Value → Shared → Prop} (X : K.In s.heap) (hr : readsIn K C (.type "type") = true)
    (e : findCls K (.ref C) (.type "type") "__name__" = some (.get (.builtin "getset_descriptor.__get__") (.builtin "type.__name__") (.ref C) (.type "type")))
    (hn : nameIn K C = some v) (hh : handedIn v = true) (h : Q v { s with toks := s.toks + 1 }) : wpAny (model prog w) A (getAttr (.ref C) "__name__" expr) Q E s := by
  have hr' := hr
  simp only [readsIn, Bool.and_eq_true, beq_iff_eq] at hr'
  obtain ⟨⟨⟨⟨_, b⟩, _⟩, _⟩, f⟩ := hr'
  exact cls_bind X hr e (wpAny_call (cname_get (s := { s with toks := s.toks + 1 }) X b f hn (handed_on hh h)))
end
end

section
open PySem PySem.W PySem.Spec PySem.Calls PyProof.Rows
set_option maxRecDepth 100000
section
variable {prog : Program} {w : World} {A : Around} {E : Value → Shared → Prop} {s : Shared} {env : Env} {h₀ : Heap} {x : Str} {body : List Stmt} {Q : Flow → Shared → Prop}

/-- what a turn must leave: the ledger as it stood, and J of the frame's names -/
def Turned (h₀ : Heap) (L : Addr) (J : (Str → Option Value) → Prop) (led : List (Addr × Obj)) (s : Shared) (Q : Flow → Shared → Prop) (f : Flow) (s₂ : Shared) : Prop :=
  match f with
  | .ret v => Q (.ret v) s₂
  | .brk => Q .next s₂
  | _ => ∃ h' tk' m', s₂ = { s with heap := h', toks := tk' } ∧ Fr h₀ L h' m' ∧ News h₀ L h' led ∧ J m'

theorem walk_loop {I : Addr} {fp wr : List Addr} {n : Nat} {P : Nat → Value → Prop} {St : Nat → Heap → Prop} {m₀ : Str → Option Value} {news : List (Addr × Obj)} (J : Nat → (Str → Option Value) → Prop)
    (W : Walks prog w A I fp wr n P St) (hLf : env.locals ∉ fp) (hwr : ∀ b ∈ wr, h₀.get? b = none) (hnw : ∀ p ∈ news, p.1 ∉ wr) (hst : St 0 s.heap) (F : Fr h₀ env.locals s.heap m₀) (N : News h₀ env.locals s.heap news) (hj : J 0 m₀)
    (turn : ∀ i v m₁ h tk own, i < n → P i v → J i m₁ → Fr h₀ env.locals h (fun y => if y = x then some v else m₁ y) → News h₀ env.locals h (own ++ news) →
      wpAny (model prog w) A (execs body env) (Turned h₀ env.locals (J (i + 1)) (own ++ news) { s with heap := h, toks := tk } Q) E { s with heap := h, toks := tk })
    (done : ∀ m₁ h tk, J n m₁ → Fr h₀ env.locals h m₁ → News h₀ env.locals h news → Q .next { s with heap := h, toks := tk }) :
    LoopAtV prog w A h₀ env x body Q E (.ref I) s := by
  refine ⟨I, fp, wr, n, P, St, m₀, news, (fun i m nx => nx = news ∧ J i m), rfl, W, hLf, hwr, hnw, hst, F, N, ⟨rfl, hj⟩, ?_, ?_⟩
  · rintro i v m₁ nx s₁ own ⟨h, tk, rfl⟩ hi hP ⟨rfl, hJ⟩ hoff _ _ _ _ F₁ N₁
    refine wpAny_mono (turn i v m₁ h tk own hi hP hJ F₁ N₁) (fun f s₂ q => ?_) fun _ _ e => e
    have fin : (∃ h' tk' m', s₂ = { { s with heap := h, toks := tk } with heap := h', toks := tk' } ∧ Fr h₀ env.locals h' m' ∧ News h₀ env.locals h' (own ++ nx) ∧ J (i + 1) m') →
        LoopStepU h₀ env.locals wr own (fun m nx' => nx' = nx ∧ J (i + 1) m) { s with heap := h, toks := tk } .next s₂ := by
      rintro ⟨h', tk', m', e, F', N', hJ'⟩
      exact ⟨rfl, h', tk', m', nx, e, F', N', hoff, rfl, hJ'⟩
    cases f with
    | ret v => exact .ret q
    | brk => exact .brk q
    | next => exact .next (fin q)
    | cont => exact .cont (fin q)
  · rintro h' tk m' nx F' N' _ ⟨rfl, hJ⟩
    exact done m' h' tk hJ F' N'

/-- a loop over a list that the ledger holds -/
theorem loop_list {l : Addr} {vs : List Value} {nn : Nat} {m₀ : Str → Option Value} {news : List (Addr × Obj)} (J : Nat → (Str → Option Value) → Prop)
    (hh : A.handled = none) (hl : (l, listOf vs.toArray nn) ∈ news) (F : Fr h₀ env.locals s.heap m₀) (N : News h₀ env.locals s.heap news) (hj : J 0 m₀)
    (turn : ∀ i v m₁ h tk own, vs[i]? = some v → J i m₁ → Fr h₀ env.locals h (fun y => if y = x then some v else m₁ y) → News h₀ env.locals h (own ++ news) →
      wpAny (model prog w) A (execs body env) (Turned h₀ env.locals (J (i + 1)) (own ++ news) { s with heap := h, toks := tk } Q) E { s with heap := h, toks := tk })
    (done : ∀ m₁ h tk, J vs.length m₁ → Fr h₀ env.locals h m₁ → News h₀ env.locals h news → Q .next { s with heap := h, toks := tk }) :
    wpAny (model prog w) A (pyIter (.ref l)) (fun it s₂ => LoopAtV prog w A h₀ env x body Q E it s₂) E s := by
  have hol : s.heap.get? l = some (listOf vs.toArray nn) := (N _ hl).1
  have hls : s.heap.IsList l vs.toArray := ⟨_, hol, rfl, nn, rfl⟩
  have hne : l ≠ s.heap.objs.size := Nat.ne_of_lt (Heap.lt_size hol)
  refine wpAny_pyIter_list hls ?_
  have W := Walks.list (prog := prog) (w := w) hh s.heap.objs.size l hne vs.toArray
  refine walk_loop J W ?_ ?_ ?_ ⟨⟨_, Heap.get?_push_size _ rfl, rfl, rfl⟩, hls.at fun o e => Heap.get?_push_of_some _ e⟩ (F.push _) (fun p hp => ⟨Heap.get?_push_of_some _ (N p hp).1, (N p hp).2⟩) hj ?_ ?_
  · intro hm
    rcases List.mem_cons.mp hm with e | hm
    · exact absurd F.ns.lt (e ▸ Nat.lt_irrefl _)
    · exact (N _ hl).2.1 ((List.mem_singleton.mp hm).symm)
  · intro b hb
    rw [List.mem_singleton.mp hb]
    exact next_is_new F
  · intro p hp hI
    exact absurd (Heap.lt_size (N p hp).1) ((List.mem_singleton.mp hI) ▸ Nat.lt_irrefl _)
  · intro i v m₁ h tk own _ hP hJ F₁ N₁
    exact turn i v m₁ h tk own (by simpa using hP) hJ F₁ N₁
  · intro m₁ h tk hJ F₁ N₁
    exact done m₁ h tk (by simpa using hJ) F₁ N₁

/-- a loop over a tuple that stands ahead of the call (a top's own) -/
theorem loop_tuple {l : Addr} {items : Array Value} {m₀ : Str → Option Value} {news : List (Addr × Obj)} (J : Nat → (Str → Option Value) → Prop)
    (hh : A.handled = none) (ht : IsTup s.heap l items) (F : Fr h₀ env.locals s.heap m₀) (N : News h₀ env.locals s.heap news) (hj : J 0 m₀)
    (turn : ∀ i v m₁ h tk own, items[i]? = some v → J i m₁ → Fr h₀ env.locals h (fun y => if y = x then some v else m₁ y) → News h₀ env.locals h (own ++ news) →
      wpAny (model prog w) A (execs body env) (Turned h₀ env.locals (J (i + 1)) (own ++ news) { s with heap := h, toks := tk } Q) E { s with heap := h, toks := tk })
    (done : ∀ m₁ h tk, J items.size m₁ → Fr h₀ env.locals h m₁ → News h₀ env.locals h news → Q .next { s with heap := h, toks := tk }) :
    wpAny (model prog w) A (pyIter (.ref l)) (fun it s₂ => LoopAtV prog w A h₀ env x body Q E it s₂) E s := by
  have hlt : l < s.heap.objs.size := by obtain ⟨_, e, _⟩ := ht; exact Heap.lt_size e
  refine wpAny_pyIter_tuple ht ?_
  refine walk_loop J (Walks.tuple hh _ l (Nat.ne_of_lt hlt) items) ?_ ?_ ?_ ⟨⟨_, Heap.get?_push_size _ rfl, rfl, rfl⟩, Heap.IsTuple.at ht fun o e => Heap.get?_push_of_some _ e⟩ (F.push _) (fun p hp => ⟨Heap.get?_push_of_some _ (N p hp).1, (N p hp).2⟩) hj ?_ ?_
  · intro hm
    rcases List.mem_cons.mp hm with e | hm
    · exact absurd F.ns.lt (e ▸ Nat.lt_irrefl _)
    · exact F.tup_ne ht (List.mem_singleton.mp hm).symm
  · intro b hb
    rw [List.mem_singleton.mp hb]
    exact next_is_new F
  · intro p hp hI
    exact absurd (Heap.lt_size (N p hp).1) ((List.mem_singleton.mp hI) ▸ Nat.lt_irrefl _)
  · intro i v m₁ h tk own _ hP hJ F₁ N₁
    exact turn i v m₁ h tk own hP hJ F₁ N₁
  · intro m₁ h tk hJ F₁ N₁
    exact done m₁ h tk hJ F₁ N₁

/-- a loop over a range by ones -/
theorem loop_range {r : Addr} {a₀ b₀ : Int} {t₀ u₀ v₀ : Tok} {n : Nat} {m₀ : Str → Option Value} {news : List (Addr × Obj)} (J : Nat → (Str → Option Value) → Prop)
    (hh : A.handled = none) (hr : IsRange s.heap r a₀ b₀ 1 t₀ u₀ v₀) (hsmall : Builtin.Range.small a₀ b₀ 1 = true) (hn : Builtin.Range.rangeSize a₀ b₀ 1 = (n : Int)) (F : Fr h₀ env.locals s.heap m₀) (N : News h₀ env.locals s.heap news) (hj : J 0 m₀)
    (turn : ∀ (i : Nat) t m₁ h tk own, i < n → J i m₁ → Fr h₀ env.locals h (fun y => if y = x then some (.int (a₀ + i) t) else m₁ y) → News h₀ env.locals h (own ++ news) →
      wpAny (model prog w) A (execs body env) (Turned h₀ env.locals (J (i + 1)) (own ++ news) { s with heap := h, toks := tk } Q) E { s with heap := h, toks := tk })
    (done : ∀ m₁ h tk, J n m₁ → Fr h₀ env.locals h m₁ → News h₀ env.locals h news → Q .next { s with heap := h, toks := tk }) :
    wpAny (model prog w) A (pyIter (.ref r)) (fun it s₂ => LoopAtV prog w A h₀ env x body Q E it s₂) E s := by
  refine wpAny_pyIter_range hr hsmall ?_
  have W : Walks prog w A s.heap.objs.size [s.heap.objs.size] [s.heap.objs.size] n (fun i v => i < n ∧ ∃ t, v = .int (a₀ + i * 1) t)
      (fun i h => IsRangeIter h s.heap.objs.size (a₀ + (i : Nat) * 1) ((n : Int) - (i : Nat)) 1) := (Walks.range hh _ a₀ 1 n).bound
  refine walk_loop J W ?_ ?_ ?_ (by show IsRangeIter _ _ _ _ _; rw [hn]; simpa using Heap.get?_push_size _ rfl) (F.push _) (fun p hp => ⟨Heap.get?_push_of_some _ (N p hp).1, (N p hp).2⟩) hj ?_ ?_
  · intro hm
    exact absurd F.ns.lt ((List.mem_singleton.mp hm) ▸ Nat.lt_irrefl _)
  · intro b hb
    rw [List.mem_singleton.mp hb]
    exact next_is_new F
  · intro p hp hI
    exact absurd (Heap.lt_size (N p hp).1) ((List.mem_singleton.mp hI) ▸ Nat.lt_irrefl _)
  · rintro i v m₁ h tk own hi ⟨_, t, rfl⟩ hJ F₁ N₁
    rw [Int.mul_one] at F₁
    exact turn i t m₁ h tk own hi hJ F₁ N₁
  · intro m₁ h tk hJ F₁ N₁
    exact done m₁ h tk hJ F₁ N₁
end
end

section
open PySem PySem.W PySem.Spec PySem.Calls PyProof.Rows
set_option maxRecDepth 100000
theorem fill (w : World) (h : Heap) : (hd.heap_39 w.params).In h → PySem.Challenge.rw_fh5025_01.most = some 63 := by
  k_fill
  intro _; rfl

/-- one service of the package: its class, its name, its number, its sub-function octet, its codes -/
structure Svc where
  C : Addr
  nm : Str
  sid : Int
  us : Bool
  codes : List Int

/-- a call of a def of the text: it ends and hands back R, and the ledger stands -/
def Ctr (prog : Program) (w : World) (p : Program) (loose : List Str) (mean : ExcName → Option Value) (mg mb : Str → Option Value) (k : Nat) (f : Addr) (news : List (Addr × Obj)) (vs : List Value) (V : Tok → Value) : Prop :=
  ∀ (dp un : Nat) (gd : Option (List Code)) (cn : Str) (cs : Scope) (a : Addr) (ccd : Value) (cl : List (Str × Addr)) (outer : List Env) (A₀ : Around) (base h₀ : Heap) (L : Addr) (m : Str → Option Value) (s : Shared) (R : Result → Shared → Prop),
    Below A₀ base outer h₀ → Fr h₀ L s.heap m → (hd.heap_39 w.params).In h₀ → News h₀ L s.heap news → Top p loose mean mg mb h₀ → cs.kind = .function → dp + k < recursionLimit → un + 8 * k < cLine →
    (∀ (t : Tok) (h' : Heap) (tk' : Nat), Fr h₀ L h' m → News h₀ L h' news → R (.ok (.ret (V t))) { s with heap := h', toks := tk' }) →
    codeAny (model prog w) (ktrTop dp un gd cn cs L a ccd cl outer) (.call (.ref f) ⟨vs, []⟩) R s

/-- what the proof asks of a service's class, read off the top's objects -/
structure ClsOk (K : Frag) (S : Svc) : Prop where
  reads : readsIn K S.C (.type "type") = true
  ty : typeIn K (.ref S.C) = some (.type "type")
  spec : specialIn K (.ref S.C) "__getattribute__" = some (some (.builtin "type.__getattribute__"))
  notMod : instIn K (.ref S.C) (.type "module") = some false
  sub : subIn K (.ref S.C) (.ref 238) = some true
  cd : ∃ cd, clsIn K S.C = some cd ∧ cd.name.cps.foldl (fun k c => k + (Str.utf8Of c).length) 0 ≤ 100 ∧ (missText cd.name "_use_subfunction").length ≤ sizeLine ∧ (missText cd.name "_no_response_data").length ≤ sizeLine
  sid : ∃ t, findCls K (.ref S.C) (.type "type") "_sid" = some (.val (.int S.sid t))
  useT : S.us = true → findIn K (.ref S.C) "_use_subfunction" = some none
  useF : S.us = false → findCls K (.ref S.C) (.type "type") "_use_subfunction" = some (.val (.bool false))
  nodata : findIn K (.ref S.C) "_no_response_data" = some none
  rid : findCls K (.ref S.C) (.type "type") "request_id" = some (.get (.builtin "classmethod.__get__") (.ref 157) .none (.ref S.C))
  aid : findCls K (.ref S.C) (.type "type") "response_id" = some (.get (.builtin "classmethod.__get__") (.ref 167) .none (.ref S.C))
  uid : findCls K (.ref S.C) (.type "type") "use_subfunction" = some (.get (.builtin "classmethod.__get__") (.ref 204) .none (.ref S.C))
  hid : findCls K (.ref S.C) (.type "type") "has_response_data" = some (.get (.builtin "classmethod.__get__") (.ref 214) .none (.ref S.C))
  nid : findCls K (.ref S.C) (.type "type") "get_name" = some (.get (.builtin "classmethod.__get__") (.ref 224) .none (.ref S.C))
  iid : findCls K (.ref S.C) (.type "type") "is_supported_negative_response" = some (.get (.builtin "classmethod.__get__") (.ref 234) .none (.ref S.C))
  nam : findCls K (.ref S.C) (.type "type") "__name__" = some (.get (.builtin "getset_descriptor.__get__") (.builtin "type.__name__") (.ref S.C) (.type "type"))
  named : ∃ t, nameIn K S.C = some (.str S.nm t)
  codes : ∃ l vs n, findCls K (.ref S.C) (.type "type") "supported_negative_response" = some (.val (.ref l)) ∧ K.lookup l = some ⟨.type "list", none, .seq (List.toArray vs) n, #[]⟩ ∧ (∃ cs, IntsAre vs cs ∧ ∀ k : Int, (cs.any fun x => x == k) = S.codes.any fun x => x == k)
  always : findCls K (.ref S.C) (.type "type") "always_valid_negative_response" = some (.val (.ref 148))
end

section
open PySem PySem.W PySem.Spec PySem.Calls PyProof.Rows
set_option maxRecDepth 100000
local macro_rules | `(tactic| k_is) => `(tactic| assumption)
set_option maxHeartbeats 8000000 in
theorem rid_c {prog : Program} {w : World} {p : Program} {loose : List Str} {mean : ExcName → Option Value} {mg mb : Str → Option Value} {news : List (Addr × Obj)} {S : Svc} (O : ClsOk (hd.heap_39 w.params) S) :
    Ctr prog w p loose mean mg mb 1 155 news [.ref S.C] (fun t => .int S.sid t) := by
  intro dp un gd cn cs a ccd cl outer A₀ base h₀ L m s R B F X N T hk hd hu ret
  obtain ⟨C, nm, sid, us, codes⟩ := S
  have c1 := O.reads
  have c2 := O.ty
  obtain ⟨ts, c3⟩ := O.sid
  dsimp only at c1 c2 c3 ret ⊢
  k_dflt cell_enter
  k_steps
  all_goals first | exact ret _ _ _ (by k_asm) (by k_asm) | skip

set_option maxHeartbeats 8000000 in
theorem aid_c {prog : Program} {w : World} {p : Program} {loose : List Str} {mean : ExcName → Option Value} {mg mb : Str → Option Value} {news : List (Addr × Obj)} {S : Svc} (O : ClsOk (hd.heap_39 w.params) S) (h0 : 0 ≤ S.sid ∧ S.sid < 256) :
    Ctr prog w p loose mean mg mb 1 165 news [.ref S.C] (fun t => .int (S.sid + 64) t) := by
  intro dp un gd cn cs a ccd cl outer A₀ base h₀ L m s R B F X N T hk hd hu ret
  obtain ⟨C, nm, sid, us, codes⟩ := S
  have c1 := O.reads
  have c2 := O.ty
  obtain ⟨ts, c3⟩ := O.sid
  dsimp only at c1 c2 c3 ret h0 ⊢
  k_dflt cell_enter
  k_steps
  all_goals first | exact ret _ _ _ (by k_asm) (by k_asm) | skip
end

section
open PySem PySem.W PySem.Spec PySem.Calls PyProof.Rows
set_option maxRecDepth 100000
local macro_rules | `(tactic| k_is) => `(tactic| with_reducible assumption)

theorem NewAttrErr.frame {h₀ h h' : Heap} {L : Addr} {m : Str → Option Value} {news : List (Addr × Obj)} {e : Addr} (x : NewAttrErr h h' e) (F : Fr h₀ L h m) (N : News h₀ L h news) : Fr h₀ L h' m ∧ News h₀ L h' news :=
  ⟨⟨F.ns.keeps x.keeps, fun b o q => x.keeps b o (F.keep b o q), F.above⟩, fun p hp => ⟨x.keeps _ _ (N p hp).1, (N p hp).2⟩⟩

local macro_rules | `(tactic| walk_at "call builtin:hasattr") => `(tactic| (k_here; refine hasattr_hit (K := hd.heap_39 _) (by k_in) (by with_reducible assumption) (by with_reducible assumption) (by rfl) (by decide +kernel) (by with_reducible assumption) ?_))
local macro_rules | `(tactic| walk_at "call builtin:hasattr") => `(tactic| (k_here; refine hasattr_miss (K := hd.heap_39 _) (by k_in) (by with_reducible assumption) (by decide +kernel) (by with_reducible assumption) (by with_reducible assumption) (by with_reducible assumption) (by with_reducible assumption) (by with_reducible assumption) (by rfl) ?_; (rename Fr _ _ _ _ => kF9); (rename News _ _ _ _ => kN9); intro h9 tk9 e9 x9; (have F9 := (x9.frame kF9 kN9).1); (have N9 := (x9.frame kF9 kN9).2); clear x9; (try k_sweep)))

set_option maxHeartbeats 1000000 in
theorem uid_c {prog : Program} {w : World} {p : Program} {loose : List Str} {mean : ExcName → Option Value} {mg mb : Str → Option Value} {news : List (Addr × Obj)} {S : Svc} (O : ClsOk (hd.heap_39 w.params) S) :
    Ctr prog w p loose mean mg mb 1 202 news [.ref S.C] (fun _ => .bool S.us) := by
  intro dp un gd cn cs a ccd cl outer A₀ base h₀ L m s R B F X N T hk hd hu ret
  obtain ⟨C, nm, sid, us, codes⟩ := S
  have c1 := O.reads
  have c2 := O.ty
  have c4 := O.notMod
  obtain ⟨cd, d1, d2, d3, d4⟩ := O.cd
  cases us with
  | true =>
    have c3 := O.useT rfl
    dsimp only at c1 c2 c3 c4 d1 ret ⊢
    k_dflt cell_enter
    k_steps
    all_goals first | exact ret 0 _ _ (by k_asm) (by k_asm) | skip
    all_goals trace_state
  | false =>
    have c3 := O.useF rfl
    dsimp only at c1 c2 c3 c4 d1 ret ⊢
    k_dflt cell_enter
    k_steps
    all_goals first | exact ret 0 _ _ (by k_asm) (by k_asm) | skip
    all_goals trace_state
end

section
open PySem PySem.W PySem.Spec PySem.Calls PyProof.Rows
set_option maxRecDepth 100000
local macro_rules | `(tactic| k_is) => `(tactic| with_reducible assumption)

local macro_rules | `(tactic| walk_at "call builtin:hasattr") => `(tactic| (k_here; refine hasattr_hit (K := hd.heap_39 _) (by k_in) (by with_reducible assumption) (by with_reducible assumption) (by rfl) (by decide +kernel) (by with_reducible assumption) ?_))
local macro_rules | `(tactic| walk_at "call builtin:hasattr") => `(tactic| (k_here; refine hasattr_miss (K := hd.heap_39 _) (by k_in) (by with_reducible assumption) (by decide +kernel) (by with_reducible assumption) (by with_reducible assumption) (by with_reducible assumption) (by with_reducible assumption) (by with_reducible assumption) (by rfl) ?_; (rename Fr _ _ _ _ => kF9); (rename News _ _ _ _ => kN9); intro h9 tk9 e9 x9; (have F9 := (x9.frame kF9 kN9).1); (have N9 := (x9.frame kF9 kN9).2); clear x9; (try k_sweep)))


set_option maxHeartbeats 1000000 in
theorem hid_c {prog : Program} {w : World} {p : Program} {loose : List Str} {mean : ExcName → Option Value} {mg mb : Str → Option Value} {news : List (Addr × Obj)} {S : Svc} (O : ClsOk (hd.heap_39 w.params) S) :
    Ctr prog w p loose mean mg mb 1 212 news [.ref S.C] (fun _ => .bool true) := by
  intro dp un gd cn cs a ccd cl outer A₀ base h₀ L m s R B F X N T hk hd hu ret
  obtain ⟨C, nm, sid, us, codes⟩ := S
  have c1 := O.reads
  have c2 := O.ty
  have c3 := O.nodata
  have c4 := O.notMod
  obtain ⟨cd, d1, d2, d3, d4⟩ := O.cd
  dsimp only at c1 c2 c3 c4 d1 ret ⊢
  k_dflt cell_enter
  k_steps
  all_goals first | exact ret 0 _ _ (by k_asm) (by k_asm) | skip

local macro_rules | `(tactic| walk_at "getAttr ref") => `(tactic| (k_here; refine cname_attr (K := hd.heap_39 _) (by k_in) (by with_reducible assumption) (by with_reducible assumption) (by with_reducible assumption) (by rfl) ?_))
set_option maxHeartbeats 1000000 in
theorem nid_c {prog : Program} {w : World} {p : Program} {loose : List Str} {mean : ExcName → Option Value} {mg mb : Str → Option Value} {news : List (Addr × Obj)} {S : Svc} (O : ClsOk (hd.heap_39 w.params) S) :
    Ctr prog w p loose mean mg mb 1 222 news [.ref S.C] (fun t => .str S.nm t) := by
  intro dp un gd cn cs a ccd cl outer A₀ base h₀ L m s R B F X N T hk hd hu ret
  obtain ⟨C, nm, sid, us, codes⟩ := S
  have c1 := O.reads
  have c2 := O.ty
  have c3 := O.nam
  obtain ⟨t, c4⟩ := O.named
  dsimp only at c1 c2 c3 c4 ret ⊢
  k_dflt cell_enter
  k_steps
  all_goals first | exact ret _ _ _ (by k_asm) (by k_asm) | skip
end

section
open PySem PySem.W PySem.Spec PySem.Calls PyProof.Rows
set_option maxRecDepth 100000
set_option rowWalk.seconds 0
local macro_rules | `(tactic| walk_at "callWith ref") => `(tactic| (k_here; k_dflt (first | (refine' callWith_M0 ?k1 ?k2 ?_; (case k1 => k_meth); (case k2 => k_is); k_whole; try dsimp only [List.nil_append, List.cons_append]) | (refine' callWith_M ?k1 ?k2 ?k3 ?k4 ?_; (case k1 => k_asm); (case k2 => k_asm); (case k3 => k_mem); (case k4 => k_is); k_whole))))
local macro_rules | `(tactic| k_is) => `(tactic| with_reducible assumption)


def alwaysL : List Int := [16, 17, 20, 33, 37, 38, 51, 52, 56, 57, 120, 127, 148]
/-- whether a service may give a code: what the own table and the rules say -/
def mayB (us : Bool) (codes : List Int) (code : Int) : Bool :=
  codes.any (· == code) || (alwaysL.any (· == code) || ((decide (128 ≤ code ∧ code ≤ 254) && codes.any (· == 34)) || (decide (code = 126) && us)))

local macro_rules | `(tactic| walk_at "compareOp In int ref") => `(tactic| (k_here; refine in_list_ints (lstK (K := hd.heap_39 _) (by k_in) (by with_reducible assumption)) (by with_reducible assumption) ?_))
local macro_rules | `(tactic| walk_at "compareOp In int ref") => `(tactic| (k_here; (with_reducible show wpAny _ _ (compareOp CmpOp.In _ (Value.ref 148)) _ _ _); refine in_list_ints (ns := alwaysL) (lstK (K := hd.heap_39 _) (by k_in) (by k_dflt k_is)) (by repeat constructor) ?_))
local macro_rules | `(tactic| walk_at "call ref") => `(tactic| (k_here; k_dflt (refine' call_meth ?k1 ?k2 ?_; (case k1 => k_asm); (case k2 => k_mem); refine' uid_c (S := ⟨_, _, _, _, _⟩) ?O _ _ _ _ _ _ _ _ _ _ _ _ _ _ _ _ ?B ?F ?X ?N ?T ?hk ?hd ?hu ?_; (case O => assumption); (case B => k_asm); (case F => k_asm); (case X => k_asm); (case N => k_asm); (case T => k_asm); (case hk => exact rfl); (case hd => ktr_room); (case hu => ktr_units)); intro t9 h9 tk9 F9 N9; (try dsimp only); (try k_sweep)))

def Say (_ : Nat) (_ : Bool) : Prop := True

theorem if_join {M : Model} {A : Around} {E : Value → Shared → Prop} {s : Shared} {cn : Str} {cs : Scope} {L a : Addr} {ccd : Value} {h₀ : Heap} {m : Str → Option Value} {news : List (Addr × Obj)} {x : Str} {b0 bt : Bool} {line c1 l2 c2 : Nat} {test : Expr} {p1 p2 p3 : Pos} {Q : Flow → Shared → Prop}
    (_ : Say line bt) (F : Fr h₀ L s.heap m) (N : News h₀ L s.heap news) (hx : m x = some (.bool b0))
    (htest : wpAny M A (isTrue test (envOf cn cs L a ccd) (eval test (envOf cn cs L a ccd))) (fun r s₁ => ∃ h tk, s₁ = { s with heap := h, toks := tk } ∧ Fr h₀ L h m ∧ News h₀ L h news ∧ r = bt) E s)
    (k : ∀ h tk, Fr h₀ L h (fun y => if y = x then some (.bool (b0 || bt)) else m y) → News h₀ L h news → Q .next { s with heap := h, toks := tk })
    (hs : swapsWith (.Constant (.bool true) 0 p2) (some (.Name x p1)) p3.line (envOf cn cs L a ccd) = pure false)
    (hk : cs.kind = .function) (hl : (envOf cn cs L a ccd).kindOf x = some .local) :
    wpAny M A (exec (.If test [.Assign [.Name x p1] (.Constant (.bool true) 0 p2) p3] [] ⟨line, c1, l2, c2⟩) (envOf cn cs L a ccd)) Q E s := by
  refine wpAny_If (wpAny_mono htest (fun r s₁ q => ?_) fun _ _ e => e)
  obtain ⟨h, tk, rfl, F', N', rfl⟩ := q
  cases r with
  | true =>
    refine wpAny_execs_cons (wpAny_Assign_Name ?_ hs)
    refine wpAny_pure ?_
    refine stN F' N' (fun h' F'' N'' => wpAny_execs_nil ?_) hk hl
    refine k _ _ ?_ N''
    rw [Bool.or_true]
    exact F''
  | false =>
    refine wpAny_execs_nil (k _ _ ?_ N')
    rw [Bool.or_false, ← hx]
    have e : (fun y => if y = x then m x else m y) = m := by
      funext y
      by_cases q : y = x
      · rw [if_pos q, q]
      · rw [if_neg q]
    rw [e]
    exact F'

local macro_rules | `(tactic| walk_at "exec If") => `(tactic| (k_here; with_unfolding_all refine' if_join ?say ?F ?N ?hx ?_ ?_ ?hs ?hk ?hl; (case hs => exact rfl); (case hk => exact rfl); (case hl => exact rfl); (case say => with_reducible assumption); (case F => k_asm); (case N => k_asm); (case hx => exact rfl); rotate_left; (intro h9 tk9 F9 N9; (try k_sweep)); rotate_right))

set_option maxHeartbeats 4000000 in
theorem supp_c {prog : Program} {w : World} {p : Program} {loose : List Str} {mean : ExcName → Option Value} {mg mb : Str → Option Value} {news : List (Addr × Obj)} {S : Svc} (O : ClsOk (hd.heap_39 w.params) S) (code : Int) (t : Tok) :
    Ctr prog w p loose mean mg mb 2 232 news [.ref S.C, .int code t] (fun _ => .bool (mayB S.us S.codes code)) := by
  intro dp un gd cn cs a ccd cl outer A₀ base h₀ L m s R B F X N T hk hd hu ret
  obtain ⟨C, nm, sid, us, codes⟩ := S
  have c1 := O.reads
  have c2 := O.ty
  have c3 := O.spec
  have c4 := O.uid
  have c5 := O.always
  obtain ⟨l, vs, n, c6, c7, cs0, c8, hcs⟩ := O.codes
  dsimp only at c1 c2 c3 c4 c5 c6 c7 c8 hcs ret ⊢
  have ret2 : ∀ (b : Bool) (h' : Heap) (tk' : Nat), Fr h₀ L h' m → News h₀ L h' news → mayB us codes code = b → R (.ok (.ret (.bool b))) { s with heap := h', toks := tk' } := by
    intro b h' tk' F' N' e
    subst e
    exact ret 0 h' tk' F' N'
  clear ret
  have s1 : Say 156 (cs0.any (· == code)) := trivial
  have s2 : Say 158 (alwaysL.any (· == code)) := trivial
  have s3 : Say 160 (decide (128 ≤ code ∧ code ≤ 254) && cs0.any (· == 34)) := trivial
  have s4 : Say 162 (decide (code = 126) && us) := trivial
  k_dflt cell_enter
  k_steps
  all_goals first
    | (refine' ret2 _ _ _ ?F9 ?N9 ?_; (case F9 => k_asm); (case N9 => first | k_asm | (refine' cb_drop ?cbN ?cbS; (case cbN => assumption); (case cbS => kcj_all))); (simp only [mayB, hcs, Bool.false_or, Bool.or_assoc]; done))
    | k_asm
    | (refine' cb_drop ?cbN ?cbS; (case cbN => assumption); (case cbS => kcj_all))
    | (rw [decide_eq_false (by omega)]; rfl)
    | (rw [decide_eq_true (by omega)]; (simp_all; done))
    | skip
end

section
open PySem PySem.W PySem.Spec PySem.Calls PyProof.Rows
set_option maxRecDepth 100000
set_option rowWalk.seconds 0
local macro_rules | `(tactic| walk_at "no key 0") => `(tactic| fail)
local macro_rules | `(tactic| walk_at "no key 1") => `(tactic| fail)
local macro_rules | `(tactic| walk_at "no key 2") => `(tactic| fail)
local macro_rules | `(tactic| k_is) => `(tactic| with_reducible assumption)



abbrev rowObj (S : Svc) (tup : Addr) (tn ti : Tok) : Obj := listOf #[.ref S.C, .str S.nm tn, .int S.sid ti, .bool S.us, .ref tup] 0
abbrev tupObj (vs : List Value) : Obj := { cls := .type "tuple", data := .seq vs.toArray }
/-- the ledger holds the row of S at l -/
def RowAt (news : List (Addr × Obj)) (l : Addr) (S : Svc) : Prop :=
  ∃ tup tn ti vs, (l, rowObj S tup tn ti) ∈ news ∧ (tup, tupObj vs) ∈ news ∧ IntsAre vs S.codes

local macro_rules | `(tactic| walk_at "subscriptTail") => `(tactic| (k_here; (with_reducible show wpAny _ _ (subscriptTail _ _ (Value.ref _) (Value.int _ _)) _ _ _); refine item_listL (News.isList (by k_asm) (by k_mem)) (by decide) (by decide) (by rfl) ?_))
local macro_rules | `(tactic| walk_at "compareOp In int ref") => `(tactic| (k_here; refine in_tuple_ints (News.isTup (by k_asm) (by k_mem)) (by assumption) ?_))
local macro_rules | `(tactic| walk_at "compareOp In int ref") => `(tactic| (k_here; refine in_tuple_ints (ns := alwaysL) (tupK (K := hd.heap_39 _) (by k_in) (by k_dflt k_is)) (by repeat constructor) ?_))

set_option maxHeartbeats 4000000 in
theorem may_c {prog : Program} {w : World} {p : Program} {loose : List Str} {mean : ExcName → Option Value} {mg mb : Str → Option Value} {news : List (Addr × Obj)} {S : Svc} {l : Addr} (r : RowAt news l S) (code : Int) (t : Tok) :
    Ctr prog w p loose mean mg mb 1 1472 news [.ref l, .int code t] (fun _ => .bool (mayB S.us S.codes code)) := by
  intro dp un gd cn cs a ccd cl outer A₀ base h₀ L m s R B F X N T hk hd hu ret
  obtain ⟨C, nm, sid, us, codes⟩ := S
  obtain ⟨tup, tn, ti, vs, m1, m2, hi⟩ := r
  dsimp only at m1 m2 hi ret ⊢
  have ret2 : ∀ (b : Bool) (h' : Heap) (tk' : Nat), Fr h₀ L h' m → News h₀ L h' news → mayB us codes code = b → R (.ok (.ret (.bool b))) { s with heap := h', toks := tk' } := by
    intro b h' tk' F' N' e
    subst e
    exact ret 0 h' tk' F' N'
  clear ret
  k_dflt cell_enter
  k_steps
  all_goals (refine' ret2 _ _ _ ?F9 ?N9 ?_; (case F9 => k_asm); (case N9 => k_asm))
  all_goals (
    (try rename codes.any (fun x => x == code) = _ => q1)
    (try rename alwaysL.any (fun x => x == code) = _ => q2)
    (try rename codes.any (fun x => x == (34 : Int)) = _ => q3)
    unfold mayB)
  all_goals first
    | (rw [q1]; rfl)
    | (rw [q1, q2]; rfl)
    | (rw [q1, q2, q3, decide_eq_true (p := 128 ≤ code ∧ code ≤ 254) (by omega)]; rfl)
    | (rw [q1, q2, q3, decide_eq_true (p := 128 ≤ code ∧ code ≤ 254) (by omega), decide_eq_true (p := code = 126) (by omega)]; rfl)
    | (rw [q1, q2, q3, decide_eq_true (p := 128 ≤ code ∧ code ≤ 254) (by omega), decide_eq_false (p := code = 126) (by omega), beq_eq_false_iff_ne.mpr (by omega)]; rfl)
    | (rw [q1, q2, decide_eq_false (p := 128 ≤ code ∧ code ≤ 254) (by omega), decide_eq_true (p := code = 126) (by omega)]; (first | rfl | (simp; done)))
    | (rw [q1, q2, decide_eq_false (p := 128 ≤ code ∧ code ≤ 254) (by omega), decide_eq_false (p := code = 126) (by omega), beq_eq_false_iff_ne.mpr (by omega)]; rfl)
    | skip
  all_goals (clear B F X N T; trace_state)
end

section
open PySem PySem.W PySem.Spec PySem.Calls PyProof.Rows
set_option maxRecDepth 100000
set_option rowWalk.seconds 0
section
variable {prog : Program} {w : World} {A : Around} {E : Value → Shared → Prop} {s : Shared} {env : Env} {h₀ : Heap} {x : Str} {body : List Stmt} {Q : Flow → Shared → Prop}

/-- what a turn that stores no name must leave -/
def TurnC (h₀ : Heap) (L : Addr) (J : Prop) (m : Str → Option Value) (led : List (Addr × Obj)) (s : Shared) (Q : Flow → Shared → Prop) (f : Flow) (s₂ : Shared) : Prop :=
  match f with
  | .ret v => Q (.ret v) s₂
  | .brk => Q .next s₂
  | _ => ∃ h' tk', s₂ = { s with heap := h', toks := tk' } ∧ Fr h₀ L h' m ∧ News h₀ L h' led ∧ J

theorem TurnC.to {h₀ : Heap} {L : Addr} {J : Prop} {m m₀ : Str → Option Value} {led : List (Addr × Obj)} {s s₂ : Shared} {Q : Flow → Shared → Prop} {f : Flow} (hm : ∀ z, z ≠ x → m z = m₀ z) (h : TurnC h₀ L J m led s Q f s₂) :
    Turned h₀ L (fun m => J ∧ ∀ z, z ≠ x → m z = m₀ z) led s Q f s₂ := by
  cases f with
  | ret v => exact h
  | brk => exact h
  | next => obtain ⟨h', tk', e, F, N, j⟩ := h; exact ⟨h', tk', m, e, F, N, j, hm⟩
  | cont => obtain ⟨h', tk', e, F, N, j⟩ := h; exact ⟨h', tk', m, e, F, N, j, hm⟩

theorem only_x {m m₀ : Str → Option Value} {u : Option Value} (hm : ∀ z, z ≠ x → m z = m₀ z) : (fun y => if y = x then u else m y) = fun y => if y = x then u else m₀ y := by
  funext y
  by_cases e : y = x
  · rw [if_pos e, if_pos e]
  · rw [if_neg e, if_neg e]; exact hm y e
theorem only_x' {m m₀ : Str → Option Value} (hm : ∀ z, z ≠ x → m z = m₀ z) : m = fun y => if y = x then m x else m₀ y := by
  funext y
  by_cases e : y = x
  · rw [if_pos e, e]
  · rw [if_neg e]; exact hm y e

theorem list_c {l : Addr} {vs : List Value} {nn : Nat} {m₀ : Str → Option Value} {news : List (Addr × Obj)} (J : Nat → Prop)
    (hh : A.handled = none) (hl : (l, listOf vs.toArray nn) ∈ news) (F : Fr h₀ env.locals s.heap m₀) (N : News h₀ env.locals s.heap news) (hj : J 0)
    (turn : ∀ i v h tk own, vs[i]? = some v → J i → Fr h₀ env.locals h (fun y => if y = x then some v else m₀ y) → News h₀ env.locals h (own ++ news) →
      wpAny (model prog w) A (execs body env) (TurnC h₀ env.locals (J (i + 1)) (fun y => if y = x then some v else m₀ y) (own ++ news) { s with heap := h, toks := tk } Q) E { s with heap := h, toks := tk })
    (done : ∀ u h tk, J vs.length → Fr h₀ env.locals h (fun y => if y = x then u else m₀ y) → News h₀ env.locals h news → Q .next { s with heap := h, toks := tk }) :
    wpAny (model prog w) A (pyIter (.ref l)) (fun it s₂ => LoopAtV prog w A h₀ env x body Q E it s₂) E s := by
  refine loop_list (fun i m => J i ∧ ∀ z, z ≠ x → m z = m₀ z) hh hl F N ⟨hj, fun _ _ => rfl⟩ ?_ ?_
  · rintro i v m₁ h tk own hv ⟨hJ, hm⟩ F₁ N₁
    rw [only_x hm] at F₁
    exact wpAny_mono (turn i v h tk own hv hJ F₁ N₁) (fun f s₂ q => q.to fun z hz => if_neg hz) fun _ _ e => e
  · rintro m₁ h tk ⟨hJ, hm⟩ F₁ N₁
    rw [only_x' hm] at F₁
    exact done _ h tk hJ F₁ N₁

theorem tuple_c {l : Addr} {items : Array Value} {m₀ : Str → Option Value} {news : List (Addr × Obj)} (J : Nat → Prop)
    (hh : A.handled = none) (ht : IsTup s.heap l items) (F : Fr h₀ env.locals s.heap m₀) (N : News h₀ env.locals s.heap news) (hj : J 0)
    (turn : ∀ i v h tk own, items[i]? = some v → J i → Fr h₀ env.locals h (fun y => if y = x then some v else m₀ y) → News h₀ env.locals h (own ++ news) →
      wpAny (model prog w) A (execs body env) (TurnC h₀ env.locals (J (i + 1)) (fun y => if y = x then some v else m₀ y) (own ++ news) { s with heap := h, toks := tk } Q) E { s with heap := h, toks := tk })
    (done : ∀ u h tk, J items.size → Fr h₀ env.locals h (fun y => if y = x then u else m₀ y) → News h₀ env.locals h news → Q .next { s with heap := h, toks := tk }) :
    wpAny (model prog w) A (pyIter (.ref l)) (fun it s₂ => LoopAtV prog w A h₀ env x body Q E it s₂) E s := by
  refine loop_tuple (fun i m => J i ∧ ∀ z, z ≠ x → m z = m₀ z) hh ht F N ⟨hj, fun _ _ => rfl⟩ ?_ ?_
  · rintro i v m₁ h tk own hv ⟨hJ, hm⟩ F₁ N₁
    rw [only_x hm] at F₁
    exact wpAny_mono (turn i v h tk own hv hJ F₁ N₁) (fun f s₂ q => q.to fun z hz => if_neg hz) fun _ _ e => e
  · rintro m₁ h tk ⟨hJ, hm⟩ F₁ N₁
    rw [only_x' hm] at F₁
    exact done _ h tk hJ F₁ N₁

theorem range_c {r : Addr} {a₀ b₀ : Int} {t₀ u₀ v₀ : Tok} {n : Nat} {m₀ : Str → Option Value} {news : List (Addr × Obj)} (J : Nat → Prop)
    (hh : A.handled = none) (hr : IsRange s.heap r a₀ b₀ 1 t₀ u₀ v₀) (hsmall : Builtin.Range.small a₀ b₀ 1 = true) (hn : Builtin.Range.rangeSize a₀ b₀ 1 = (n : Int)) (F : Fr h₀ env.locals s.heap m₀) (N : News h₀ env.locals s.heap news) (hj : J 0)
    (turn : ∀ (i : Nat) t h tk own, i < n → J i → Fr h₀ env.locals h (fun y => if y = x then some (.int (a₀ + i) t) else m₀ y) → News h₀ env.locals h (own ++ news) →
      wpAny (model prog w) A (execs body env) (TurnC h₀ env.locals (J (i + 1)) (fun y => if y = x then some (.int (a₀ + i) t) else m₀ y) (own ++ news) { s with heap := h, toks := tk } Q) E { s with heap := h, toks := tk })
    (done : ∀ u h tk, J n → Fr h₀ env.locals h (fun y => if y = x then u else m₀ y) → News h₀ env.locals h news → Q .next { s with heap := h, toks := tk }) :
    wpAny (model prog w) A (pyIter (.ref r)) (fun it s₂ => LoopAtV prog w A h₀ env x body Q E it s₂) E s := by
  refine loop_range (fun i m => J i ∧ ∀ z, z ≠ x → m z = m₀ z) hh hr hsmall hn F N ⟨hj, fun _ _ => rfl⟩ ?_ ?_
  · rintro i t m₁ h tk own hi ⟨hJ, hm⟩ F₁ N₁
    rw [only_x hm] at F₁
    exact wpAny_mono (turn i t h tk own hi hJ F₁ N₁) (fun f s₂ q => q.to fun z hz => if_neg hz) fun _ _ e => e
  · rintro m₁ h tk ⟨hJ, hm⟩ F₁ N₁
    rw [only_x' hm] at F₁
    exact done _ h tk hJ F₁ N₁
end

/-- what from_request_id hands back -/
def findRef (Ss : List Svc) (p : Svc → Bool) : Value := match Ss.find? p with
  | some S => .ref S.C
  | none => .none
theorem findRef_hit {Ss : List Svc} {p : Svc → Bool} {i : Nat} {S : Svc} (h : Ss[i]? = some S) (hp : p S = true) (hb : ∀ j S', j < i → Ss[j]? = some S' → p S' = false) : findRef Ss p = .ref S.C := by
  have e : Ss.find? p = some S := by
    rw [List.find?_eq_some_iff_getElem]
    obtain ⟨hi, rfl⟩ := List.getElem?_eq_some_iff.mp h
    refine ⟨hp, i, hi, rfl, fun j hj => ?_⟩
    have := hb j _ hj (List.getElem?_eq_getElem (Nat.lt_trans hj hi))
    simp [this]
  unfold findRef
  rw [e]
theorem findRef_miss {Ss : List Svc} {p : Svc → Bool} (hb : ∀ j S', j < Ss.length → Ss[j]? = some S' → p S' = false) : findRef Ss p = .none := by
  have e : Ss.find? p = none := by
    rw [List.find?_eq_none]
    intro S hS
    obtain ⟨j, hj, rfl⟩ := List.mem_iff_getElem.mp hS
    have := hb j _ hj (List.getElem?_eq_getElem hj)
    simp [this]
  unfold findRef
  rw [e]
end

section
open PySem PySem.W PySem.Spec PySem.Calls PyProof.Rows
set_option maxRecDepth 100000
set_option rowWalk.seconds 0
local macro_rules | `(tactic| walk_at "no key 0") => `(tactic| fail)
local macro_rules | `(tactic| walk_at "no key 1") => `(tactic| fail)
local macro_rules | `(tactic| walk_at "no key 2") => `(tactic| fail)
local macro_rules | `(tactic| walk_at "no key 3") => `(tactic| fail)
local macro_rules | `(tactic| walk_at "callWith ref") => `(tactic| (k_here; k_dflt (first | (refine' callWith_M0 ?k1 ?k2 ?_; (case k1 => k_meth); (case k2 => k_is); k_whole; try dsimp only [List.nil_append, List.cons_append]) | (refine' callWith_M ?k1 ?k2 ?k3 ?k4 ?_; (case k1 => k_asm); (case k2 => k_asm); (case k3 => k_mem); (case k4 => k_is); k_whole))))
local macro_rules | `(tactic| k_is) => `(tactic| with_reducible assumption)

theorem callRid {prog : Program} {w : World} {p : Program} {loose : List Str} {mean : ExcName → Option Value} {mg mb : Str → Option Value} {news : List (Addr × Obj)} {C : Addr} {nm : Str} {sid : Int} {us : Bool} {codes : List Int} (O : ClsOk (hd.heap_39 w.params) ⟨C, nm, sid, us, codes⟩) :
    Ctr prog w p loose mean mg mb 1 155 news [.ref C] (fun t => .int sid t) := rid_c O

local macro_rules | `(tactic| walk_at "call ref") => `(tactic| (k_here; k_dflt (refine' call_meth ?k1 ?k2 ?_; (case k1 => k_asm); (case k2 => k_mem); refine' callRid ?O _ _ _ _ _ _ _ _ _ _ _ _ _ _ _ _ ?B ?F ?X ?N ?T ?hk ?hd ?hu ?_; (case O => assumption); (case B => k_asm); (case F => k_asm); (case X => k_asm); (case N => k_asm); (case T => k_asm); (case hk => exact rfl); (case hd => ktr_room); (case hu => ktr_units)); intro t9 h9 tk9 F9 N9; (try dsimp only); (try k_sweep)))
local macro_rules | `(tactic| walk_at "exec For") => `(tactic| (k_here; (rename Fr _ _ _ _ => lF'); (with_unfolding_all refine' For_invVF lF' ?k1 ?k2 ?_; (case k1 => exact rfl); (case k2 => exact rfl); k_whole)))

set_option maxHeartbeats 4000000 in
theorem fromReq_c {prog : Program} {w : World} {p : Program} {loose : List Str} {mean : ExcName → Option Value} {mg mb : Str → Option Value} {news : List (Addr × Obj)} {l : Addr} {nn : Nat} {Ss : List Svc} (hl : (l, listOf (Ss.map fun S => Value.ref S.C).toArray nn) ∈ news)
    (hS : ∀ S ∈ Ss, ClsOk (hd.heap_39 w.params) S) (g : Int) (t : Tok) :
    Ctr prog w p loose mean mg mb 2 175 news [.ref 238, .int g t, .ref l] (fun _ => findRef Ss fun S => S.sid == g) := by
  intro dp un gd cn cs a ccd cl outer A₀ base h₀ L m s R B F X N T hk hd hu ret
  have ret2 : ∀ (v : Value) (h' : Heap) (tk' : Nat), Fr h₀ L h' m → News h₀ L h' news → findRef Ss (fun S => S.sid == g) = v → R (.ok (.ret v)) { s with heap := h', toks := tk' } := by
    intro v h' tk' F' N' e
    subst e
    exact ret 0 h' tk' F' N'
  clear ret
  k_dflt cell_enter
  k_steps
  (rename Fr _ _ _ _ => lF); (rename News _ _ _ _ => lN)
  refine list_c (vs := Ss.map fun S => Value.ref S.C) (fun i => ∀ j S', j < i → Ss[j]? = some S' → (S'.sid == g) = false) rfl hl lF lN (fun j S' h => absurd h (Nat.not_lt_zero _)) ?_ ?_
  · clear lF lN
    intro i v h9 tk9 own9 hv hJ F9 N9
    rw [List.getElem?_map] at hv
    obtain ⟨S, hi, rfl⟩ := Option.map_eq_some_iff.mp hv
    have O := hS S (List.mem_of_getElem? hi)
    obtain ⟨C, nm, sid, us, codes⟩ := S
    have c1 := O.reads
    have c2 := O.ty
    have c3 := O.spec
    have c4 := O.rid
    dsimp only at c1 c2 c3 c4
    k_steps
    · dsimp only [TurnC]
      k_steps
      all_goals (refine' ret2 _ _ _ ?F9 ?N9 ?_; (case F9 => k_asm); (case N9 => first | k_asm | (refine' cb_drop ?cbN ?cbS; (case cbN => assumption); (case cbS => intro p hp; simp [hp]))))
      all_goals exact findRef_hit hi (beq_iff_eq.mpr (by assumption)) hJ
    · refine ⟨_, _, rfl, by k_asm, ?_, ?_⟩
      · first | k_asm | (refine' cb_drop ?cbN ?cbS; (case cbN => assumption); (case cbS => intro p hp; simp at hp; simp [hp]))
      · intro j S' hj hS'
        rcases Nat.lt_succ_iff_lt_or_eq.mp hj with q | q
        · exact hJ j S' q hS'
        · subst q
          rw [hi] at hS'
          cases hS'
          exact beq_eq_false_iff_ne.mpr (by assumption)
  · clear lF lN
    intro u9 h9 tk9 hJ F9 N9
    rw [List.length_map] at hJ
    k_steps
    all_goals (refine' ret2 _ _ _ ?F9 ?N9 ?_; (case F9 => k_asm); (case N9 => k_asm))
    all_goals exact findRef_miss hJ
end

section
open PySem PySem.W PySem.Spec PySem.Calls PyProof.Rows
set_option maxRecDepth 100000
set_option rowWalk.seconds 0
local macro_rules | `(tactic| walk_at "no key 0") => `(tactic| fail)
local macro_rules | `(tactic| walk_at "no key 1") => `(tactic| fail)
local macro_rules | `(tactic| walk_at "no key 2") => `(tactic| fail)
local macro_rules | `(tactic| walk_at "no key 3") => `(tactic| fail)
local macro_rules | `(tactic| walk_at "no key 4") => `(tactic| fail)
local macro_rules | `(tactic| walk_at "callWith ref") => `(tactic| (k_here; k_dflt (first | (refine' callWith_M0 ?k1 ?k2 ?_; (case k1 => k_meth); (case k2 => k_is); k_whole; try dsimp only [List.nil_append, List.cons_append]) | (refine' callWith_M ?k1 ?k2 ?k3 ?k4 ?_; (case k1 => k_asm); (case k2 => k_asm); (case k3 => k_mem); (case k4 => k_is); k_whole))))
local macro_rules | `(tactic| k_is) => `(tactic| with_reducible assumption)

theorem callAid {prog : Program} {w : World} {p : Program} {loose : List Str} {mean : ExcName → Option Value} {mg mb : Str → Option Value} {news : List (Addr × Obj)} {C : Addr} {nm : Str} {sid : Int} {us : Bool} {codes : List Int} (O : ClsOk (hd.heap_39 w.params) ⟨C, nm, sid, us, codes⟩) (h0 : 0 ≤ sid ∧ sid < 256) :
    Ctr prog w p loose mean mg mb 1 165 news [.ref C] (fun t => .int (sid + 64) t) := aid_c O h0

local macro_rules | `(tactic| walk_at "call ref") => `(tactic| (k_here; k_dflt (refine' call_meth ?k1 ?k2 ?_; (case k1 => k_asm); (case k2 => k_mem); refine' callAid ?O ?h0 _ _ _ _ _ _ _ _ _ _ _ _ _ _ _ _ ?B ?F ?X ?N ?T ?hk ?hd ?hu ?_; (case O => assumption); (case h0 => assumption); (case B => k_asm); (case F => k_asm); (case X => k_asm); (case N => k_asm); (case T => k_asm); (case hk => exact rfl); (case hd => ktr_room); (case hu => ktr_units)); intro t9 h9 tk9 F9 N9; (try dsimp only); (try k_sweep)))
local macro_rules | `(tactic| walk_at "exec For") => `(tactic| (k_here; (rename Fr _ _ _ _ => lF'); (with_unfolding_all refine' For_invVF lF' ?k1 ?k2 ?_; (case k1 => exact rfl); (case k2 => exact rfl); k_whole)))

set_option maxHeartbeats 4000000 in
theorem fromAns_c {prog : Program} {w : World} {p : Program} {loose : List Str} {mean : ExcName → Option Value} {mg mb : Str → Option Value} {news : List (Addr × Obj)} {l : Addr} {nn : Nat} {Ss : List Svc} (hl : (l, listOf (Ss.map fun S => Value.ref S.C).toArray nn) ∈ news)
    (hS : ∀ S ∈ Ss, ClsOk (hd.heap_39 w.params) S) (hB : ∀ S ∈ Ss, 0 ≤ S.sid ∧ S.sid < 256) (g : Int) (t : Tok) :
    Ctr prog w p loose mean mg mb 2 185 news [.ref 238, .int g t, .ref l] (fun _ => findRef Ss fun S => S.sid + 64 == g) := by
  intro dp un gd cn cs a ccd cl outer A₀ base h₀ L m s R B F X N T hk hd hu ret
  have ret2 : ∀ (v : Value) (h' : Heap) (tk' : Nat), Fr h₀ L h' m → News h₀ L h' news → findRef Ss (fun S => S.sid + 64 == g) = v → R (.ok (.ret v)) { s with heap := h', toks := tk' } := by
    intro v h' tk' F' N' e
    subst e
    exact ret 0 h' tk' F' N'
  clear ret
  k_dflt cell_enter
  k_steps
  (rename Fr _ _ _ _ => lF); (rename News _ _ _ _ => lN)
  refine list_c (vs := Ss.map fun S => Value.ref S.C) (fun i => ∀ j S', j < i → Ss[j]? = some S' → (S'.sid + 64 == g) = false) rfl hl lF lN (fun j S' h => absurd h (Nat.not_lt_zero _)) ?_ ?_
  · clear lF lN
    intro i v h9 tk9 own9 hv hJ F9 N9
    rw [List.getElem?_map] at hv
    obtain ⟨S, hi, rfl⟩ := Option.map_eq_some_iff.mp hv
    have O := hS S (List.mem_of_getElem? hi)
    obtain ⟨C, nm, sid, us, codes⟩ := S
    have c1 := O.reads
    have c2 := O.ty
    have c3 := O.spec
    have c4 := O.aid
    have hb := hB _ (List.mem_of_getElem? hi)
    dsimp only at c1 c2 c3 c4 hb
    k_steps
    · dsimp only [TurnC]
      k_steps
      all_goals (refine' ret2 _ _ _ ?F9 ?N9 ?_; (case F9 => k_asm); (case N9 => first | k_asm | (refine' cb_drop ?cbN ?cbS; (case cbN => assumption); (case cbS => intro p hp; simp [hp]))))
      all_goals exact findRef_hit hi (beq_iff_eq.mpr (by assumption)) hJ
    · refine ⟨_, _, rfl, by k_asm, ?_, ?_⟩
      · first | k_asm | (refine' cb_drop ?cbN ?cbS; (case cbN => assumption); (case cbS => intro p hp; simp at hp; simp [hp]))
      · intro j S' hj hS'
        rcases Nat.lt_succ_iff_lt_or_eq.mp hj with q | q
        · exact hJ j S' q hS'
        · subst q
          rw [hi] at hS'
          cases hS'
          exact beq_eq_false_iff_ne.mpr (by assumption)
  · clear lF lN
    intro u9 h9 tk9 hJ F9 N9
    rw [List.length_map] at hJ
    k_steps
    all_goals (refine' ret2 _ _ _ ?F9 ?N9 ?_; (case F9 => k_asm); (case N9 => k_asm))
    all_goals exact findRef_miss hJ
end

section
open PySem PySem.W PySem.Spec PySem.Calls PyProof.Rows
set_option maxRecDepth 100000
set_option rowWalk.seconds 0
local macro_rules | `(tactic| walk_at "no key 0") => `(tactic| fail)
local macro_rules | `(tactic| walk_at "no key 1") => `(tactic| fail)
local macro_rules | `(tactic| walk_at "no key 2") => `(tactic| fail)
local macro_rules | `(tactic| walk_at "no key 3") => `(tactic| fail)
local macro_rules | `(tactic| walk_at "no key 4") => `(tactic| fail)
local macro_rules | `(tactic| walk_at "callWith ref") => `(tactic| (k_here; k_dflt (first | (refine' callWith_M0 ?k1 ?k2 ?_; (case k1 => k_meth); (case k2 => k_is); k_whole; try dsimp only [List.nil_append, List.cons_append]) | (refine' callWith_M ?k1 ?k2 ?k3 ?k4 ?_; (case k1 => k_asm); (case k2 => k_asm); (case k3 => k_mem); (case k4 => k_is); k_whole))))
local macro_rules | `(tactic| k_is) => `(tactic| with_reducible assumption)
local macro_rules | `(tactic| k_mem) => `(tactic| first | ktr_member | exact List.mem_cons_of_mem _ (by ktr_member) | exact List.mem_cons_of_mem _ (List.mem_cons_of_mem _ (by ktr_member)) | exact List.mem_cons_of_mem _ (List.mem_cons_of_mem _ (List.mem_cons_of_mem _ (by ktr_member))) | exact List.mem_cons_of_mem _ (List.mem_cons_of_mem _ (List.mem_cons_of_mem _ (List.mem_cons_of_mem _ (by ktr_member)))))

theorem callReq {prog : Program} {w : World} {p : Program} {loose : List Str} {mean : ExcName → Option Value} {mg mb : Str → Option Value} {news : List (Addr × Obj)} {l : Addr} {nn : Nat} {Ss : List Svc} {g : Int} {t : Tok} {v : Value} (hl : (l, listOf (Ss.map fun S => Value.ref S.C).toArray nn) ∈ news)
    (hS : ∀ S ∈ Ss, ClsOk (hd.heap_39 w.params) S) (e : findRef Ss (fun S => S.sid == g) = v) : Ctr prog w p loose mean mg mb 2 175 news [.ref 238, .int g t, .ref l] (fun _ => v) := e ▸ fromReq_c hl hS g t
theorem callAns {prog : Program} {w : World} {p : Program} {loose : List Str} {mean : ExcName → Option Value} {mg mb : Str → Option Value} {news : List (Addr × Obj)} {l : Addr} {nn : Nat} {Ss : List Svc} {g : Int} {t : Tok} {v : Value} (hl : (l, listOf (Ss.map fun S => Value.ref S.C).toArray nn) ∈ news)
    (hS : ∀ S ∈ Ss, ClsOk (hd.heap_39 w.params) S) (hB : ∀ S ∈ Ss, 0 ≤ S.sid ∧ S.sid < 256) (e : findRef Ss (fun S => S.sid + 64 == g) = v) : Ctr prog w p loose mean mg mb 2 185 news [.ref 238, .int g t, .ref l] (fun _ => v) := e ▸ fromAns_c hl hS hB g t

local macro_rules | `(tactic| walk_at "call ref") => `(tactic| (k_here; k_dflt (refine' call_meth ?k1 ?k2 ?_; (case k1 => k_asm); (case k2 => k_mem); refine' callReq ?hl ?hS ?he _ _ _ _ _ _ _ _ _ _ _ _ _ _ _ _ ?B ?F ?X ?N ?T ?hk ?hd ?hu ?_; (case N => k_asm); (case hl => k_mem); (case hS => assumption); (case he => assumption); (case B => k_asm); (case F => k_asm); (case X => k_asm); (case T => k_asm); (case hk => exact rfl); (case hd => ktr_room); (case hu => ktr_units)); intro t9 h9 tk9 F9 N9; (try dsimp only); (try k_sweep)))
local macro_rules | `(tactic| walk_at "call ref") => `(tactic| (k_here; k_dflt (refine' call_meth ?k1 ?k2 ?_; (case k1 => k_asm); (case k2 => k_mem); refine' callAns ?hl ?hS ?hB ?he _ _ _ _ _ _ _ _ _ _ _ _ _ _ _ _ ?B ?F ?X ?N ?T ?hk ?hd ?hu ?_; (case N => k_asm); (case hl => k_mem); (case hS => assumption); (case hB => assumption); (case he => assumption); (case B => k_asm); (case F => k_asm); (case X => k_asm); (case T => k_asm); (case hk => exact rfl); (case hd => ktr_room); (case hu => ktr_units)); intro t9 h9 tk9 F9 N9; (try dsimp only); (try k_sweep)))
local macro_rules | `(tactic| walk_at "subscriptTail") => `(tactic| (k_here; (with_reducible show wpAny _ _ (subscriptTail _ _ (Value.ref _) (Value.int _ _)) _ _ _); refine item_listL (News.isList (by k_asm) (by k_mem)) (by decide) (by decide) (by rfl) ?_))

set_option maxHeartbeats 4000000 in
theorem found_c {prog : Program} {w : World} {p : Program} {loose : List Str} {mean : ExcName → Option Value} {mg mb : Str → Option Value} {news : List (Addr × Obj)} {lr l : Addr} {nn : Nat} {Ss : List Svc} {S : Svc} {held : Bool} (r : RowAt news lr S) (hl : (l, listOf (Ss.map fun S => Value.ref S.C).toArray nn) ∈ news)
    (hS : ∀ S ∈ Ss, ClsOk (hd.heap_39 w.params) S) (hB : ∀ S ∈ Ss, 0 ≤ S.sid ∧ S.sid < 256) (h0 : 0 ≤ S.sid ∧ S.sid < 256)
    (e1 : findRef Ss (fun T => T.sid == S.sid) = if held then .ref S.C else .none) (e2 : findRef Ss (fun T => T.sid + 64 == S.sid + 64) = if held then .ref S.C else .none)
    (e3 : findRef Ss (fun T => T.sid == S.sid + 64) = .none) (e4 : findRef Ss (fun T => T.sid + 64 == S.sid) = .none) :
    Ctr prog w p loose mean mg mb 3 1486 news [.ref lr, .ref l, .bool held] (fun _ => .bool true) := by
  intro dp un gd cn cs a ccd cl outer A₀ base h₀ L m s R B F X N T hk hd hu ret
  obtain ⟨C, nm, sid, us, codes⟩ := S
  obtain ⟨tup, tn, ti, vs, m1, m2, hi⟩ := r
  dsimp only at m1 m2 e1 e2 e3 e4 h0
  cases held with
  | true =>
    rw [if_pos rfl] at e1 e2
    k_dflt cell_enter
    k_steps
    all_goals first
      | (refine' ret 0 _ _ ?F9 ?N9; (case F9 => k_asm); (case N9 => first | k_asm | (refine' cb_drop ?cbN ?cbS; (case cbN => assumption); (case cbS => kcj_all))))
      | trace_state
  | false =>
    rw [if_neg Bool.false_ne_true] at e1 e2
    k_dflt cell_enter
    k_steps
    all_goals first
      | (refine' ret 0 _ _ ?F9 ?N9; (case F9 => k_asm); (case N9 => first | k_asm | (refine' cb_drop ?cbN ?cbS; (case cbN => assumption); (case cbS => kcj_all))))
      | trace_state
end

section
open PySem PySem.W PySem.Spec PySem.Calls PyProof.Rows
set_option maxRecDepth 100000
set_option rowWalk.seconds 0
/-- the thirteen services, in the order of the law's rows -/
def svcs : List Svc := [
  ⟨407, Str.ofString "Authentication", 41, true, [18, 19, 34, 36, 80, 81, 82, 83, 84, 85, 86, 87, 88, 89, 90, 91, 92, 93]⟩,
  ⟨496, Str.ofString "CommunicationControl", 40, true, [18, 19, 34, 49]⟩,
  ⟨576, Str.ofString "DynamicallyDefineDataIdentifier", 44, true, [18, 19, 34, 49]⟩,
  ⟨657, Str.ofString "InputOutputControlByIdentifier", 47, false, [19, 34, 49, 51]⟩,
  ⟨736, Str.ofString "LinkControl", 135, true, [18, 19, 34, 36, 49]⟩,
  ⟨813, Str.ofString "ReadDataByIdentifier", 34, false, [19, 34, 49, 51]⟩,
  ⟨1013, Str.ofString "ReadDTCInformation", 25, true, [18, 19, 49]⟩,
  ⟨1079, Str.ofString "ReadMemoryByAddress", 35, false, [19, 34, 49, 51]⟩,
  ⟨1156, Str.ofString "RequestDownload", 52, false, [19, 34, 49, 51, 112]⟩,
  ⟨1255, Str.ofString "RequestFileTransfer", 56, false, [19, 34, 36, 49, 112]⟩,
  ⟨1322, Str.ofString "TransferData", 54, false, [19, 36, 49, 113, 114, 115, 146, 147]⟩,
  ⟨1388, Str.ofString "WriteDataByIdentifier", 46, false, [19, 34, 49, 51, 114]⟩,
  ⟨1454, Str.ofString "WriteMemoryByAddress", 61, false, [19, 34, 49, 51, 114]⟩]

def RowsAre (led : List (Addr × Obj)) : List Addr → List Svc → Prop
  | [], [] => True
  | a :: as, S :: Ss => RowAt led a S ∧ RowsAre led as Ss
  | _, _ => False

def Rising : List Addr → Prop
  | [] => True
  | a :: as => (∀ b ∈ as, a < b) ∧ Rising as

/-- the ledger holds the thirteen rows, and the list of them at l -/
structure RowsAt (led : List (Addr × Obj)) (l : Addr) (ls : List Addr) : Prop where
  list : (l, listOf (ls.map Value.ref).toArray 0) ∈ led
  rows : RowsAre led ls svcs
  rise : Rising ls
  top : ∀ b ∈ ls, b < l

theorem news_swap {h₀ h : Heap} {L : Addr} {own news : List (Addr × Obj)} (N : News h₀ L h (own ++ news)) : News h₀ L h (news ++ own) := fun p hp => N p (by
  rcases List.mem_append.mp hp with q | q
  · exact List.mem_append_right _ q
  · exact List.mem_append_left _ q)

set_option maxHeartbeats 4000000 in
theorem rows_c {prog : Program} {w : World} {p : Program} {loose : List Str} {mean : ExcName → Option Value} {mg mb : Str → Option Value} {news : List (Addr × Obj)}
    {dp un : Nat} {gd : Option (List Code)} {cn : Str} {cs : Scope} {a : Addr} {ccd : Value} {cl : List (Str × Addr)} {outer : List Env} {A₀ : Around} {base h₀ : Heap} {L : Addr} {m : Str → Option Value} {s : Shared} {R : Result → Shared → Prop}
    (B : Below A₀ base outer h₀) (F : Fr h₀ L s.heap m) (X : (hd.heap_39 w.params).In h₀) (N : News h₀ L s.heap news) (T : Top p loose mean mg mb h₀) (hk : cs.kind = .function) (hd : dp + 1 < recursionLimit) (hu : un + 8 < cLine)
    (ret : ∀ (l : Addr) (ls : List Addr) (h' : Heap) (tk' : Nat) (own : List (Addr × Obj)), Fr h₀ L h' m → News h₀ L h' (news ++ own) → (∀ p ∈ news, ∀ q ∈ own, p.1 < q.1) → RowsAt own l ls → R (.ok (.ret (.ref l))) { s with heap := h', toks := tk' }) :
    codeAny (model prog w) (ktrTop dp un gd cn cs L a ccd cl outer) (.call (.ref 1465) ⟨[], []⟩) R s := by
  k_dflt cell_enter
  k_steps
  (rename ∀ (p : Addr × Obj), p ∈ news → p.fst < _ => hN)
  repeat ((rename _ < _ ∧ _ => q9); (have q8 := q9.1); clear q9)
  refine' ret _ [_, _, _, _, _, _, _, _, _, _, _, _, _] _ _ [_, _, _, _, _, _, _, _, _, _, _, _, _, _, _, _, _, _, _, _, _, _, _, _, _, _, _] ?F9 (news_swap ?N9) ?lt ⟨?a, ?b, ?c, ?d⟩
  (case F9 => k_asm)
  (case N9 => k_asm)
  (case a => with_unfolding_all exact List.Mem.head _)
  (case lt => (intro p hp; (have h1 : @LT.lt Nat instLTNat p.1 _ := hN p hp); (simp only [List.forall_mem_cons, List.not_mem_nil, false_implies, implies_true, and_true]); refine ⟨?_, ?_, ?_, ?_, ?_, ?_, ?_, ?_, ?_, ?_, ?_, ?_, ?_, ?_, ?_, ?_, ?_, ?_, ?_, ?_, ?_, ?_, ?_, ?_, ?_, ?_, ?_⟩ <;> (change @LT.lt Nat instLTNat _ _; omega)))
  (case c => (simp only [Rising, List.forall_mem_cons, List.not_mem_nil, false_implies, implies_true, and_true]); (repeat' apply And.intro); all_goals (change @LT.lt Nat instLTNat _ _; omega))
  (case d => (simp only [List.forall_mem_cons, List.not_mem_nil, false_implies, implies_true, and_true]); refine ⟨?_, ?_, ?_, ?_, ?_, ?_, ?_, ?_, ?_, ?_, ?_, ?_, ?_⟩ <;> (change @LT.lt Nat instLTNat _ _; omega))
  (case b => (refine ⟨?_, ?_, ?_, ?_, ?_, ?_, ?_, ?_, ?_, ?_, ?_, ?_, ?_, trivial⟩ <;> exact ⟨_, _, _, _, by k_mem, by k_mem, by repeat constructor⟩))
end

section
open PySem PySem.W PySem.Spec PySem.Calls PyProof.Rows
set_option maxRecDepth 100000
set_option rowWalk.seconds 0
/-- what the proof asks of an object made of a service's class -/
structure ClsMade (K : Frag) (C : Addr) : Prop where
  keep : keepIn K (.ref C) = true
  makes : makesIn K C = true
  init : findIn K (.ref C) "__init__" = some (some (.builtin "object.__init__"))
  hasD : hasDictIn K C = true
  g1 : plainGet K C "request_id" = true
  g2 : plainGet K C "response_id" = true
  g3 : plainGet K C "use_subfunction" = true
  g4 : plainGet K C "has_response_data" = true
  g5 : plainGet K C "get_name" = true
  g6 : plainGet K C "subfunction_id" = true
  g7 : plainGet K C "is_supported_negative_response" = true
  f1 : findIn K (.ref C) "request_id" = some (some (.ref 157))
  f2 : findIn K (.ref C) "response_id" = some (some (.ref 167))
  f3 : findIn K (.ref C) "use_subfunction" = some (some (.ref 204))
  f4 : findIn K (.ref C) "has_response_data" = some (some (.ref 214))
  f5 : findIn K (.ref C) "get_name" = some (some (.ref 224))
  f6 : findIn K (.ref C) "subfunction_id" = some (some (.ref 195))
  f7 : findIn K (.ref C) "is_supported_negative_response" = some (some (.ref 234))

theorem ok0 (w : World) : ClsOk (hd.heap_39 w.params) ⟨407, Str.ofString "Authentication", 41, true, [18, 19, 34, 36, 80, 81, 82, 83, 84, 85, 86, 87, 88, 89, 90, 91, 92, 93]⟩ where
  reads := by k_is
  ty := by k_is
  spec := by k_is
  notMod := by k_is
  sub := by k_is
  cd := ⟨_, by k_is, by decide +kernel, by decide +kernel, by decide +kernel⟩
  sid := ⟨_, by k_is⟩
  useT := fun _ => by k_is
  useF := fun h => by cases h
  nodata := by k_is
  rid := by k_is
  aid := by k_is
  uid := by k_is
  hid := by k_is
  nid := by k_is
  iid := by k_is
  nam := by k_is
  named := ⟨(match nameIn (hd.heap_39 w.params) 407 with | some (.str _ t) => t | _ => 0), by kernel_rfl⟩
  codes := ⟨_, _, _, by k_is, by k_is, _, by repeat constructor, fun k => by simp only [List.any_cons, List.any_nil]⟩
  always := by k_is
theorem mk0 (w : World) : ClsMade (hd.heap_39 w.params) 407 := ⟨by k_is, by k_is, by k_is, by k_is, by k_is, by k_is, by k_is, by k_is, by k_is, by k_is, by k_is, by k_is, by k_is, by k_is, by k_is, by k_is, by k_is, by k_is⟩
theorem ok1 (w : World) : ClsOk (hd.heap_39 w.params) ⟨496, Str.ofString "CommunicationControl", 40, true, [18, 19, 34, 49]⟩ where
  reads := by k_is
  ty := by k_is
  spec := by k_is
  notMod := by k_is
  sub := by k_is
  cd := ⟨_, by k_is, by decide +kernel, by decide +kernel, by decide +kernel⟩
  sid := ⟨_, by k_is⟩
  useT := fun _ => by k_is
  useF := fun h => by cases h
  nodata := by k_is
  rid := by k_is
  aid := by k_is
  uid := by k_is
  hid := by k_is
  nid := by k_is
  iid := by k_is
  nam := by k_is
  named := ⟨(match nameIn (hd.heap_39 w.params) 496 with | some (.str _ t) => t | _ => 0), by kernel_rfl⟩
  codes := ⟨_, _, _, by k_is, by k_is, _, by repeat constructor, fun k => by simp only [List.any_cons, List.any_nil]⟩
  always := by k_is
theorem mk1 (w : World) : ClsMade (hd.heap_39 w.params) 496 := ⟨by k_is, by k_is, by k_is, by k_is, by k_is, by k_is, by k_is, by k_is, by k_is, by k_is, by k_is, by k_is, by k_is, by k_is, by k_is, by k_is, by k_is, by k_is⟩
theorem ok2 (w : World) : ClsOk (hd.heap_39 w.params) ⟨576, Str.ofString "DynamicallyDefineDataIdentifier", 44, true, [18, 19, 34, 49]⟩ where
  reads := by k_is
  ty := by k_is
  spec := by k_is
  notMod := by k_is
  sub := by k_is
  cd := ⟨_, by k_is, by decide +kernel, by decide +kernel, by decide +kernel⟩
  sid := ⟨_, by k_is⟩
  useT := fun _ => by k_is
  useF := fun h => by cases h
  nodata := by k_is
  rid := by k_is
  aid := by k_is
  uid := by k_is
  hid := by k_is
  nid := by k_is
  iid := by k_is
  nam := by k_is
  named := ⟨(match nameIn (hd.heap_39 w.params) 576 with | some (.str _ t) => t | _ => 0), by kernel_rfl⟩
  codes := ⟨_, _, _, by k_is, by k_is, _, by repeat constructor, fun k => by simp only [List.any_cons, List.any_nil]⟩
  always := by k_is
theorem mk2 (w : World) : ClsMade (hd.heap_39 w.params) 576 := ⟨by k_is, by k_is, by k_is, by k_is, by k_is, by k_is, by k_is, by k_is, by k_is, by k_is, by k_is, by k_is, by k_is, by k_is, by k_is, by k_is, by k_is, by k_is⟩
theorem ok3 (w : World) : ClsOk (hd.heap_39 w.params) ⟨657, Str.ofString "InputOutputControlByIdentifier", 47, false, [19, 34, 49, 51]⟩ where
  reads := by k_is
  ty := by k_is
  spec := by k_is
  notMod := by k_is
  sub := by k_is
  cd := ⟨_, by k_is, by decide +kernel, by decide +kernel, by decide +kernel⟩
  sid := ⟨_, by k_is⟩
  useT := fun h => by cases h
  useF := fun _ => by k_is
  nodata := by k_is
  rid := by k_is
  aid := by k_is
  uid := by k_is
  hid := by k_is
  nid := by k_is
  iid := by k_is
  nam := by k_is
  named := ⟨(match nameIn (hd.heap_39 w.params) 657 with | some (.str _ t) => t | _ => 0), by kernel_rfl⟩
  codes := ⟨_, _, _, by k_is, by k_is, _, by repeat constructor, fun k => by simp only [List.any_cons, List.any_nil]⟩
  always := by k_is
theorem mk3 (w : World) : ClsMade (hd.heap_39 w.params) 657 := ⟨by k_is, by k_is, by k_is, by k_is, by k_is, by k_is, by k_is, by k_is, by k_is, by k_is, by k_is, by k_is, by k_is, by k_is, by k_is, by k_is, by k_is, by k_is⟩
theorem ok4 (w : World) : ClsOk (hd.heap_39 w.params) ⟨736, Str.ofString "LinkControl", 135, true, [18, 19, 34, 36, 49]⟩ where
  reads := by k_is
  ty := by k_is
  spec := by k_is
  notMod := by k_is
  sub := by k_is
  cd := ⟨_, by k_is, by decide +kernel, by decide +kernel, by decide +kernel⟩
  sid := ⟨_, by k_is⟩
  useT := fun _ => by k_is
  useF := fun h => by cases h
  nodata := by k_is
  rid := by k_is
  aid := by k_is
  uid := by k_is
  hid := by k_is
  nid := by k_is
  iid := by k_is
  nam := by k_is
  named := ⟨(match nameIn (hd.heap_39 w.params) 736 with | some (.str _ t) => t | _ => 0), by kernel_rfl⟩
  codes := ⟨_, _, _, by k_is, by k_is, _, by repeat constructor, fun k => by simp only [List.any_cons, List.any_nil]⟩
  always := by k_is
theorem mk4 (w : World) : ClsMade (hd.heap_39 w.params) 736 := ⟨by k_is, by k_is, by k_is, by k_is, by k_is, by k_is, by k_is, by k_is, by k_is, by k_is, by k_is, by k_is, by k_is, by k_is, by k_is, by k_is, by k_is, by k_is⟩
theorem ok5 (w : World) : ClsOk (hd.heap_39 w.params) ⟨813, Str.ofString "ReadDataByIdentifier", 34, false, [19, 34, 49, 51]⟩ where
  reads := by k_is
  ty := by k_is
  spec := by k_is
  notMod := by k_is
  sub := by k_is
  cd := ⟨_, by k_is, by decide +kernel, by decide +kernel, by decide +kernel⟩
  sid := ⟨_, by k_is⟩
  useT := fun h => by cases h
  useF := fun _ => by k_is
  nodata := by k_is
  rid := by k_is
  aid := by k_is
  uid := by k_is
  hid := by k_is
  nid := by k_is
  iid := by k_is
  nam := by k_is
  named := ⟨(match nameIn (hd.heap_39 w.params) 813 with | some (.str _ t) => t | _ => 0), by kernel_rfl⟩
  codes := ⟨_, _, _, by k_is, by k_is, _, by repeat constructor, fun k => by simp only [List.any_cons, List.any_nil]⟩
  always := by k_is
theorem mk5 (w : World) : ClsMade (hd.heap_39 w.params) 813 := ⟨by k_is, by k_is, by k_is, by k_is, by k_is, by k_is, by k_is, by k_is, by k_is, by k_is, by k_is, by k_is, by k_is, by k_is, by k_is, by k_is, by k_is, by k_is⟩
theorem ok6 (w : World) : ClsOk (hd.heap_39 w.params) ⟨1013, Str.ofString "ReadDTCInformation", 25, true, [18, 19, 49]⟩ where
  reads := by k_is
  ty := by k_is
  spec := by k_is
  notMod := by k_is
  sub := by k_is
  cd := ⟨_, by k_is, by decide +kernel, by decide +kernel, by decide +kernel⟩
  sid := ⟨_, by k_is⟩
  useT := fun _ => by k_is
  useF := fun h => by cases h
  nodata := by k_is
  rid := by k_is
  aid := by k_is
  uid := by k_is
  hid := by k_is
  nid := by k_is
  iid := by k_is
  nam := by k_is
  named := ⟨(match nameIn (hd.heap_39 w.params) 1013 with | some (.str _ t) => t | _ => 0), by kernel_rfl⟩
  codes := ⟨_, _, _, by k_is, by k_is, _, by repeat constructor, fun k => by simp only [List.any_cons, List.any_nil]⟩
  always := by k_is
theorem mk6 (w : World) : ClsMade (hd.heap_39 w.params) 1013 := ⟨by k_is, by k_is, by k_is, by k_is, by k_is, by k_is, by k_is, by k_is, by k_is, by k_is, by k_is, by k_is, by k_is, by k_is, by k_is, by k_is, by k_is, by k_is⟩
theorem ok7 (w : World) : ClsOk (hd.heap_39 w.params) ⟨1079, Str.ofString "ReadMemoryByAddress", 35, false, [19, 34, 49, 51]⟩ where
  reads := by k_is
  ty := by k_is
  spec := by k_is
  notMod := by k_is
  sub := by k_is
  cd := ⟨_, by k_is, by decide +kernel, by decide +kernel, by decide +kernel⟩
  sid := ⟨_, by k_is⟩
  useT := fun h => by cases h
  useF := fun _ => by k_is
  nodata := by k_is
  rid := by k_is
  aid := by k_is
  uid := by k_is
  hid := by k_is
  nid := by k_is
  iid := by k_is
  nam := by k_is
  named := ⟨(match nameIn (hd.heap_39 w.params) 1079 with | some (.str _ t) => t | _ => 0), by kernel_rfl⟩
  codes := ⟨_, _, _, by k_is, by k_is, _, by repeat constructor, fun k => by simp only [List.any_cons, List.any_nil]⟩
  always := by k_is
theorem mk7 (w : World) : ClsMade (hd.heap_39 w.params) 1079 := ⟨by k_is, by k_is, by k_is, by k_is, by k_is, by k_is, by k_is, by k_is, by k_is, by k_is, by k_is, by k_is, by k_is, by k_is, by k_is, by k_is, by k_is, by k_is⟩
theorem ok8 (w : World) : ClsOk (hd.heap_39 w.params) ⟨1156, Str.ofString "RequestDownload", 52, false, [19, 34, 49, 51, 112]⟩ where
  reads := by k_is
  ty := by k_is
  spec := by k_is
  notMod := by k_is
  sub := by k_is
  cd := ⟨_, by k_is, by decide +kernel, by decide +kernel, by decide +kernel⟩
  sid := ⟨_, by k_is⟩
  useT := fun h => by cases h
  useF := fun _ => by k_is
  nodata := by k_is
  rid := by k_is
  aid := by k_is
  uid := by k_is
  hid := by k_is
  nid := by k_is
  iid := by k_is
  nam := by k_is
  named := ⟨(match nameIn (hd.heap_39 w.params) 1156 with | some (.str _ t) => t | _ => 0), by kernel_rfl⟩
  codes := ⟨_, _, _, by k_is, by k_is, _, by repeat constructor, fun k => by simp only [List.any_cons, List.any_nil]⟩
  always := by k_is
theorem mk8 (w : World) : ClsMade (hd.heap_39 w.params) 1156 := ⟨by k_is, by k_is, by k_is, by k_is, by k_is, by k_is, by k_is, by k_is, by k_is, by k_is, by k_is, by k_is, by k_is, by k_is, by k_is, by k_is, by k_is, by k_is⟩
theorem ok9 (w : World) : ClsOk (hd.heap_39 w.params) ⟨1255, Str.ofString "RequestFileTransfer", 56, false, [19, 34, 36, 49, 112]⟩ where
  reads := by k_is
  ty := by k_is
  spec := by k_is
  notMod := by k_is
  sub := by k_is
  cd := ⟨_, by k_is, by decide +kernel, by decide +kernel, by decide +kernel⟩
  sid := ⟨_, by k_is⟩
  useT := fun h => by cases h
  useF := fun _ => by k_is
  nodata := by k_is
  rid := by k_is
  aid := by k_is
  uid := by k_is
  hid := by k_is
  nid := by k_is
  iid := by k_is
  nam := by k_is
  named := ⟨(match nameIn (hd.heap_39 w.params) 1255 with | some (.str _ t) => t | _ => 0), by kernel_rfl⟩
  codes := ⟨_, _, _, by k_is, by k_is, _, by repeat constructor, fun k => by simp only [List.any_cons, List.any_nil]; ac_rfl⟩
  always := by k_is
theorem mk9 (w : World) : ClsMade (hd.heap_39 w.params) 1255 := ⟨by k_is, by k_is, by k_is, by k_is, by k_is, by k_is, by k_is, by k_is, by k_is, by k_is, by k_is, by k_is, by k_is, by k_is, by k_is, by k_is, by k_is, by k_is⟩
theorem ok10 (w : World) : ClsOk (hd.heap_39 w.params) ⟨1322, Str.ofString "TransferData", 54, false, [19, 36, 49, 113, 114, 115, 146, 147]⟩ where
  reads := by k_is
  ty := by k_is
  spec := by k_is
  notMod := by k_is
  sub := by k_is
  cd := ⟨_, by k_is, by decide +kernel, by decide +kernel, by decide +kernel⟩
  sid := ⟨_, by k_is⟩
  useT := fun h => by cases h
  useF := fun _ => by k_is
  nodata := by k_is
  rid := by k_is
  aid := by k_is
  uid := by k_is
  hid := by k_is
  nid := by k_is
  iid := by k_is
  nam := by k_is
  named := ⟨(match nameIn (hd.heap_39 w.params) 1322 with | some (.str _ t) => t | _ => 0), by kernel_rfl⟩
  codes := ⟨_, _, _, by k_is, by k_is, _, by repeat constructor, fun k => by simp only [List.any_cons, List.any_nil]⟩
  always := by k_is
theorem mk10 (w : World) : ClsMade (hd.heap_39 w.params) 1322 := ⟨by k_is, by k_is, by k_is, by k_is, by k_is, by k_is, by k_is, by k_is, by k_is, by k_is, by k_is, by k_is, by k_is, by k_is, by k_is, by k_is, by k_is, by k_is⟩
theorem ok11 (w : World) : ClsOk (hd.heap_39 w.params) ⟨1388, Str.ofString "WriteDataByIdentifier", 46, false, [19, 34, 49, 51, 114]⟩ where
  reads := by k_is
  ty := by k_is
  spec := by k_is
  notMod := by k_is
  sub := by k_is
  cd := ⟨_, by k_is, by decide +kernel, by decide +kernel, by decide +kernel⟩
  sid := ⟨_, by k_is⟩
  useT := fun h => by cases h
  useF := fun _ => by k_is
  nodata := by k_is
  rid := by k_is
  aid := by k_is
  uid := by k_is
  hid := by k_is
  nid := by k_is
  iid := by k_is
  nam := by k_is
  named := ⟨(match nameIn (hd.heap_39 w.params) 1388 with | some (.str _ t) => t | _ => 0), by kernel_rfl⟩
  codes := ⟨_, _, _, by k_is, by k_is, _, by repeat constructor, fun k => by simp only [List.any_cons, List.any_nil]⟩
  always := by k_is
theorem mk11 (w : World) : ClsMade (hd.heap_39 w.params) 1388 := ⟨by k_is, by k_is, by k_is, by k_is, by k_is, by k_is, by k_is, by k_is, by k_is, by k_is, by k_is, by k_is, by k_is, by k_is, by k_is, by k_is, by k_is, by k_is⟩
theorem ok12 (w : World) : ClsOk (hd.heap_39 w.params) ⟨1454, Str.ofString "WriteMemoryByAddress", 61, false, [19, 34, 49, 51, 114]⟩ where
  reads := by k_is
  ty := by k_is
  spec := by k_is
  notMod := by k_is
  sub := by k_is
  cd := ⟨_, by k_is, by decide +kernel, by decide +kernel, by decide +kernel⟩
  sid := ⟨_, by k_is⟩
  useT := fun h => by cases h
  useF := fun _ => by k_is
  nodata := by k_is
  rid := by k_is
  aid := by k_is
  uid := by k_is
  hid := by k_is
  nid := by k_is
  iid := by k_is
  nam := by k_is
  named := ⟨(match nameIn (hd.heap_39 w.params) 1454 with | some (.str _ t) => t | _ => 0), by kernel_rfl⟩
  codes := ⟨_, _, _, by k_is, by k_is, _, by repeat constructor, fun k => by simp only [List.any_cons, List.any_nil]⟩
  always := by k_is
theorem mk12 (w : World) : ClsMade (hd.heap_39 w.params) 1454 := ⟨by k_is, by k_is, by k_is, by k_is, by k_is, by k_is, by k_is, by k_is, by k_is, by k_is, by k_is, by k_is, by k_is, by k_is, by k_is, by k_is, by k_is, by k_is⟩
theorem clsOk (w : World) : ∀ S ∈ svcs, ClsOk (hd.heap_39 w.params) S ∧ ClsMade (hd.heap_39 w.params) S.C ∧ (0 ≤ S.sid ∧ S.sid < 256) ∧ PyData.strOk S.nm = true := by
  unfold svcs
  simp only [List.forall_mem_cons, List.not_mem_nil, false_implies, implies_true, and_true]
  exact ⟨⟨ok0 w, mk0 w, ⟨by decide, by decide⟩, by decide +kernel⟩, ⟨ok1 w, mk1 w, ⟨by decide, by decide⟩, by decide +kernel⟩, ⟨ok2 w, mk2 w, ⟨by decide, by decide⟩, by decide +kernel⟩, ⟨ok3 w, mk3 w, ⟨by decide, by decide⟩, by decide +kernel⟩, ⟨ok4 w, mk4 w, ⟨by decide, by decide⟩, by decide +kernel⟩, ⟨ok5 w, mk5 w, ⟨by decide, by decide⟩, by decide +kernel⟩, ⟨ok6 w, mk6 w, ⟨by decide, by decide⟩, by decide +kernel⟩, ⟨ok7 w, mk7 w, ⟨by decide, by decide⟩, by decide +kernel⟩, ⟨ok8 w, mk8 w, ⟨by decide, by decide⟩, by decide +kernel⟩, ⟨ok9 w, mk9 w, ⟨by decide, by decide⟩, by decide +kernel⟩, ⟨ok10 w, mk10 w, ⟨by decide, by decide⟩, by decide +kernel⟩, ⟨ok11 w, mk11 w, ⟨by decide, by decide⟩, by decide +kernel⟩, ⟨ok12 w, mk12 w, ⟨by decide, by decide⟩, by decide +kernel⟩⟩
end

section
open PySem PySem.W PySem.Spec PySem.Calls PyProof.Rows
set_option maxRecDepth 100000
set_option rowWalk.seconds 0
theorem sfid_c {prog : Program} {w : World} {p : Program} {loose : List Str} {mean : ExcName → Option Value} {mg mb : Str → Option Value} {news : List (Addr × Obj)} (v : Addr) :
    Ctr prog w p loose mean mg mb 1 195 news [.ref v] (fun t => .int 0 t) := by
  intro dp un gd cn cs a ccd cl outer A₀ base h₀ L m s R B F X N T hk hd hu ret
  k_dflt cell_enter
  k_steps
  all_goals first
    | (refine' ret _ _ _ ?F9 ?N9; (case F9 => k_asm); (case N9 => first | k_asm | (refine' cb_drop ?cbN ?cbS; (case cbN => assumption); (case cbS => kcj_all))))
    | trace_state
end

section
open PySem PySem.W PySem.Spec PySem.Calls PyProof.Rows
set_option maxRecDepth 100000
set_option rowWalk.seconds 0
local macro_rules | `(tactic| walk_at "no key 0") => `(tactic| fail)
local macro_rules | `(tactic| walk_at "no key 1") => `(tactic| fail)
local macro_rules | `(tactic| walk_at "no key 2") => `(tactic| fail)
local macro_rules | `(tactic| walk_at "no key 3") => `(tactic| fail)
local macro_rules | `(tactic| walk_at "no key 4") => `(tactic| fail)
local macro_rules | `(tactic| walk_at "no key 5") => `(tactic| fail)
local macro_rules | `(tactic| walk_at "no key 6") => `(tactic| fail)
local macro_rules | `(tactic| walk_at "no key 7") => `(tactic| fail)
local macro_rules | `(tactic| walk_at "no key 8") => `(tactic| fail)
local macro_rules | `(tactic| k_is) => `(tactic| with_reducible assumption)
local macro_rules | `(tactic| walk_at "call builtin:issubclass") => `(tactic| (k_here; refine issub_call (K := hd.heap_39 _) (by k_in) (by k_dflt k_is) (by k_dflt k_is) (looks_isType (K := hd.heap_39 _) (by k_in) (by with_reducible assumption)) (by with_reducible assumption) ?_))
theorem brd_c {prog : Program} {w : World} {p : Program} {loose : List Str} {mean : ExcName → Option Value} {mg mb : Str → Option Value} {news : List (Addr × Obj)} {S : Svc} (O : ClsOk (hd.heap_39 w.params) S)
    {dp un : Nat} {gd : Option (List Code)} {cn : Str} {cs : Scope} {a : Addr} {ccd : Value} {cl : List (Str × Addr)} {outer : List Env} {A₀ : Around} {base h₀ : Heap} {L : Addr} {m : Str → Option Value} {s : Shared} {Q E : Value → Shared → Prop}
    (B : Below A₀ base outer h₀) (F : Fr h₀ L s.heap m) (X : (hd.heap_39 w.params).In h₀) (N : News h₀ L s.heap news) (T : Top p loose mean mg mb h₀) (hk : cs.kind = .function) (hd : dp + 2 < recursionLimit) (hu : un + 8 < cLine) 
    (ret : ∀ (o d : Addr) (t : Tok) (h' : Heap) (tk' : Nat), Fr h₀ L h' m → News h₀ L h' ((o, instObj 259 d) :: (d, dictOf [{ hash := PyData.keyHash w.params "service_class", key := .str "service_class" t, val := .ref S.C }] 1) :: news) → (∀ p ∈ news, p.1 < d) → d < o → Q (.ref o) { s with heap := h', toks := tk' }) :
    wpAny (model prog w) (ktrTop dp un gd cn cs L a ccd cl outer) (call (.ref 259) [.ref S.C]) Q E s := by
  obtain ⟨C, nm, sid, us, codes⟩ := S
  have c1 := O.reads
  have c2 := O.ty
  have c3 := O.spec
  have c9 := O.sub
  obtain ⟨cd, d1, d2, d3, d4⟩ := O.cd
  dsimp only at c1 c2 c3 c9 d1 ret
  dsimp only
  k_dflt (refine' call_cls ?k1 ?k2 ?k3 ?k4 ?k5 ?k6 ?_; (case k1 => k_asm); (case k2 => k_asm); (case k3 => k_asm); (case k4 => k_is); (case k5 => k_is); (case k6 => k_is); k_whole)
  intro x' d' h' F' N' l1 l2
  (try k_lt l1)
  (try k_lt2 l2)
  k_dflt cell_enter
  k_steps
  refine' ret x' d' _ _ _ ?F9 ?N9 l1 l2
  (case F9 => k_asm)
  (case N9 => k_asm)
end

section
open PySem PySem.W PySem.Spec PySem.Calls PyProof.Rows
set_option maxRecDepth 100000
set_option rowWalk.seconds 0
local macro_rules | `(tactic| walk_at "callWith ref") => `(tactic| (k_here; k_dflt (first | (refine' callWith_M0 ?k1 ?k2 ?_; (case k1 => k_meth); (case k2 => k_is); k_whole; try dsimp only [List.nil_append, List.cons_append]) | (refine' callWith_M ?k1 ?k2 ?k3 ?k4 ?_; (case k1 => k_asm); (case k2 => k_asm); (case k3 => k_mem); (case k4 => k_is); k_whole))))
local macro_rules | `(tactic| k_is) => `(tactic| with_reducible assumption)
local macro_rules | `(tactic| k_mem) => `(tactic| first | ktr_member | exact List.mem_cons_of_mem _ (by ktr_member) | exact List.mem_cons_of_mem _ (List.mem_cons_of_mem _ (by ktr_member)) | exact List.mem_cons_of_mem _ (List.mem_cons_of_mem _ (List.mem_cons_of_mem _ (by ktr_member))) | exact List.mem_cons_of_mem _ (List.mem_cons_of_mem _ (List.mem_cons_of_mem _ (List.mem_cons_of_mem _ (by ktr_member)))))

section
variable {prog : Program} {w : World} {p : Program} {loose : List Str} {mean : ExcName → Option Value} {mg mb : Str → Option Value} {news : List (Addr × Obj)} {C : Addr} {nm : Str} {sid : Int} {us : Bool} {codes : List Int}
theorem callUid (O : ClsOk (hd.heap_39 w.params) ⟨C, nm, sid, us, codes⟩) : Ctr prog w p loose mean mg mb 1 202 news [.ref C] (fun _ => .bool us) := uid_c O
theorem callHid (O : ClsOk (hd.heap_39 w.params) ⟨C, nm, sid, us, codes⟩) : Ctr prog w p loose mean mg mb 1 212 news [.ref C] (fun _ => .bool true) := hid_c O
theorem callNid (O : ClsOk (hd.heap_39 w.params) ⟨C, nm, sid, us, codes⟩) : Ctr prog w p loose mean mg mb 1 222 news [.ref C] (fun t => .str nm t) := nid_c O
end

theorem eq5 {prog : Program} {w : World} {A : Around} {E : Value → Shared → Prop} {s : Shared} {Q : Value → Shared → Prop} {h₀ : Heap} {L x y : Addr} {news : List (Addr × Obj)} {i j : Int} {p : Bool} {nm : Str} {t1 t2 t3 u1 u2 u3 : Tok}
    (N : News h₀ L s.heap news) (h1 : (x, listOf #[.int i t1, .int j t2, .bool p, .bool true, .str nm t3] 0) ∈ news) (h2 : (y, listOf #[.int i u1, .int j u2, .bool p, .bool true, .str nm u3] 0) ∈ news) (hn : PyData.strOk nm = true) (hu : A.units + 64 < cLine) (h : Q (.bool true) s) :
    wpAny (model prog w) A (compareOp .Eq (.ref x) (.ref y)) Q E s := by
  refine eq_dataH (da := .list [.int i, .int j, .bool p, .bool true, .str nm]) (db := .list [.int i, .int j, .bool p, .bool true, .str nm])
    (reads_list_at (N.get h1) rfl rfl (.cons (.int _ _) (.cons (.int _ _) (.cons (.bool _) (.cons (.bool _) (.cons (.str _ _) .nil))))))
    (reads_list_at (N.get h2) rfl rfl (.cons (.int _ _) (.cons (.int _ _) (.cons (.bool _) (.cons (.bool _) (.cons (.str _ _) .nil))))))
    (by simp [SeqAt.shaped, PyData.canLay0, PyData.canLayAll0, PyData.depth, PyData.depthAll, hn]) (by simp [SeqAt.shaped, PyData.canLay0, PyData.canLayAll0, PyData.depth, PyData.depthAll, hn]) hu ?_
  simp only [PyData.eqv, PyData.eqvAll, beq_self_eq_true, decide_true, Bool.and_true]
  exact h

local macro_rules | `(tactic| walk_at "compareOp Eq ref ref") => `(tactic| (k_here; (rename News _ _ _ _ => kN9); k_dflt (refine' eq5 kN9 ?a ?b ?c ?d ?_; (case a => k_mem); (case b => k_mem); (case c => with_reducible assumption); (case d => ktr_units))))
local macro_rules | `(tactic| walk_at "call ref") => `(tactic| (k_here; k_dflt (refine' call_meth ?k1 ?k2 ?_; (case k1 => k_asm); (case k2 => k_mem); (with_reducible show codeAny _ _ (Code.call (Value.ref 155) _) _ _); refine' callRid ?O _ _ _ _ _ _ _ _ _ _ _ _ _ _ _ _ ?B ?F ?X ?N ?T ?hk ?hd ?hu ?_; (case O => with_reducible assumption); (case B => k_asm); (case F => k_asm); (case X => k_asm); (case N => k_asm); (case T => k_asm); (case hk => exact rfl); (case hd => ktr_room); (case hu => ktr_units)); intro t9 h9 tk9 F9 N9; (try dsimp only); (try k_sweep)))
local macro_rules | `(tactic| walk_at "call ref") => `(tactic| (k_here; k_dflt (refine' call_meth ?k1 ?k2 ?_; (case k1 => k_asm); (case k2 => k_mem); (with_reducible show codeAny _ _ (Code.call (Value.ref 202) _) _ _); refine' callUid ?O _ _ _ _ _ _ _ _ _ _ _ _ _ _ _ _ ?B ?F ?X ?N ?T ?hk ?hd ?hu ?_; (case O => with_reducible assumption); (case B => k_asm); (case F => k_asm); (case X => k_asm); (case N => k_asm); (case T => k_asm); (case hk => exact rfl); (case hd => ktr_room); (case hu => ktr_units)); intro t9 h9 tk9 F9 N9; (try dsimp only); (try k_sweep)))
local macro_rules | `(tactic| walk_at "call ref") => `(tactic| (k_here; k_dflt (refine' call_meth ?k1 ?k2 ?_; (case k1 => k_asm); (case k2 => k_mem); (with_reducible show codeAny _ _ (Code.call (Value.ref 212) _) _ _); refine' callHid ?O _ _ _ _ _ _ _ _ _ _ _ _ _ _ _ _ ?B ?F ?X ?N ?T ?hk ?hd ?hu ?_; (case O => with_reducible assumption); (case B => k_asm); (case F => k_asm); (case X => k_asm); (case N => k_asm); (case T => k_asm); (case hk => exact rfl); (case hd => ktr_room); (case hu => ktr_units)); intro t9 h9 tk9 F9 N9; (try dsimp only); (try k_sweep)))
local macro_rules | `(tactic| walk_at "call ref") => `(tactic| (k_here; k_dflt (refine' call_meth ?k1 ?k2 ?_; (case k1 => k_asm); (case k2 => k_mem); (with_reducible show codeAny _ _ (Code.call (Value.ref 222) _) _ _); refine' callNid ?O _ _ _ _ _ _ _ _ _ _ _ _ _ _ _ _ ?B ?F ?X ?N ?T ?hk ?hd ?hu ?_; (case O => with_reducible assumption); (case B => k_asm); (case F => k_asm); (case X => k_asm); (case N => k_asm); (case T => k_asm); (case hk => exact rfl); (case hd => ktr_room); (case hu => ktr_units)); intro t9 h9 tk9 F9 N9; (try dsimp only); (try k_sweep)))
local macro_rules | `(tactic| walk_at "call ref") => `(tactic| (k_here; k_dflt (refine' call_meth ?k1 ?k2 ?_; (case k1 => k_asm); (case k2 => k_mem); (with_reducible show codeAny _ _ (Code.call (Value.ref 165) _) _ _); refine' callAid ?O ?h0 _ _ _ _ _ _ _ _ _ _ _ _ _ _ _ _ ?B ?F ?X ?N ?T ?hk ?hd ?hu ?_; (case O => with_reducible assumption); (case h0 => with_reducible assumption); (case B => k_asm); (case F => k_asm); (case X => k_asm); (case N => k_asm); (case T => k_asm); (case hk => exact rfl); (case hd => ktr_room); (case hu => ktr_units)); intro t9 h9 tk9 F9 N9; (try dsimp only); (try k_sweep)))
local macro_rules | `(tactic| walk_at "getMethod ref") => `(tactic| (k_here; k_dflt (refine' kmu_cm ?k1 ?k2 ?k3 ?k4 ?k5 ?k6 ?k7 ?k8 ?k9 ?k10 ?k11 ?k12 ?k13 ?_; (case k1 => k_asm); (case k2 => k_asm); (case k3 => k_asm); (case k4 => k_inst); (case k5 => with_reducible assumption); (case k6 => with_reducible assumption); (case k7 => with_reducible assumption); (case k8 => k_is); (case k9 => k_is); (case k10 => k_is); (case k11 => decide +kernel); (case k12 => k_get); (case k13 => k_is); k_whole; intro q' h' F' N' l1; (try k_lt l1); (try k_sweep))))
local macro_rules | `(tactic| walk_at "getMethod ref") => `(tactic| (k_here; k_dflt (refine' method_of_cls ?k1 ?k2 ?k3 ?_; (case k1 => k_asm); (case k2 => k_asm); (case k3 => with_reducible assumption); k_whole)))
local macro_rules | `(tactic| walk_at "getAttr ref") => `(tactic| (k_here; k_dflt (refine' cls_cm ?k1 ?k2 ?k3 ?k4 ?k5 ?k6 ?k7 ?_; (case k1 => k_asm); (case k2 => k_asm); (case k3 => k_asm); (case k4 => with_reducible assumption); (case k5 => with_reducible assumption); (case k6 => with_reducible assumption); (case k7 => k_is); k_whole); intro q' h' F' N' l1; (try k_lt l1)))
local macro_rules | `(tactic| walk_at "call ref") => `(tactic| (k_here; k_dflt (refine wpAny_call ?_; (with_reducible show codeAny _ _ (Code.call (Value.ref 195) _) _ _); refine' sfid_c _ _ _ _ _ _ _ _ _ _ _ _ _ _ _ _ _ ?B ?F ?X ?N ?T ?hk ?hd ?hu ?_; (case B => k_asm); (case F => k_asm); (case X => k_asm); (case N => k_asm); (case T => k_asm); (case hk => exact rfl); (case hd => ktr_room); (case hu => ktr_units)); intro t9 h9 tk9 F9 N9; (try dsimp only); (try k_sweep)))
local macro_rules | `(tactic| walk_at "call ref") => `(tactic| (k_here; k_dflt ((with_reducible show wpAny _ _ (call (Value.ref 259) _) _ _ _); refine' brd_c (S := ⟨_, _, _, _, _⟩) ?O ?B ?F ?X ?N ?T ?hk ?hd ?hu ?_; (case O => with_reducible assumption); (case B => k_asm); (case F => k_asm); (case X => k_asm); (case N => k_asm); (case T => k_asm); (case hk => exact rfl); (case hd => ktr_room); (case hu => ktr_units)); intro x9 d9 t9 h9 tk9 F9 N9 l1 l2; (try dsimp only); (try k_lt l1); (try k_lt2 l2); (try k_sweep)))
local macro_rules | `(tactic| walk_at "subscriptTail") => `(tactic| (k_here; (with_reducible show wpAny _ _ (subscriptTail _ _ (Value.ref _) (Value.int _ _)) _ _ _); k_dflt (refine' item_listL (News.isList (by k_asm) (by k_mem)) ?a ?b ?c ?_; (case a => decide); (case b => decide); (case c => rfl))))
local macro_rules | `(tactic| walk_at "call builtin:issubclass") => `(tactic| (k_here; refine issub_call (K := hd.heap_39 _) (by k_in) (by k_dflt k_is) (by k_dflt k_is) (looks_isType (K := hd.heap_39 _) (by k_in) (by with_reducible assumption)) (by with_reducible assumption) ?_))



set_option maxHeartbeats 20000000 in
theorem told_c {prog : Program} {w : World} {p : Program} {loose : List Str} {mean : ExcName → Option Value} {mg mb : Str → Option Value} {news : List (Addr × Obj)} {lr : Addr} {S : Svc} (r : RowAt news lr S)
    (O : ClsOk (hd.heap_39 w.params) S) (Y : ClsMade (hd.heap_39 w.params) S.C) (h0 : 0 ≤ S.sid ∧ S.sid < 256) (hn : PyData.strOk S.nm = true) :
    Ctr prog w p loose mean mg mb 12 1479 news [.ref lr] (fun _ => .bool true) := by
  intro dp un gd cn cs a ccd cl outer A₀ base h₀ L m s R B F X N T hk hd hu ret
  obtain ⟨C, nm, sid, us, codes⟩ := S
  obtain ⟨tup, tn, ti, vs, m1, m2, hi⟩ := r
  obtain ⟨y0, y1, y2, y3, y4, y5, y6, y7, y8, y9, y10, z1, z2, z3, z4, z5, z6, z7⟩ := Y
  have c1 := O.reads
  have c2 := O.ty
  have c3 := O.spec
  have c4 := O.rid
  have c5 := O.aid
  have c6 := O.uid
  have c7 := O.hid
  have c8 := O.nid
  have c9 := O.sub
  obtain ⟨cd, d1, d2, d3, d4⟩ := O.cd
  dsimp only at m1 m2 h0 hn y0 y1 y2 y3 y4 y5 y6 y7 y8 y9 y10 z1 z2 z3 z4 z5 z6 z7 c1 c2 c3 c4 c5 c6 c7 c8 c9 d1
  change (lr, listOf #[Value.ref C, Value.str nm tn, Value.int sid ti, Value.bool us, Value.ref tup] 0) ∈ news at m1
  k_dflt cell_enter
  k_steps
  all_goals first
    | (refine' ret 0 _ _ ?F9 ?N9; (case F9 => k_asm); (case N9 => first | k_asm | (refine' cb_drop ?cbN ?cbS; (case cbN => assumption); (case cbS => kcj_all))))
    | trace_state
end

section
open PySem PySem.W PySem.Spec PySem.Calls PyProof.Rows
set_option maxRecDepth 100000
/-! the plain law of the rows turned, one of them left out -/
def idx (turn : Nat) : List Nat := (List.range 13).drop turn ++ (List.range 13).take turn
def keeps (drop i : Nat) : Bool := decide (12 < drop) || i != drop
def svcAt (i : Nat) : Svc := (svcs[i]?).getD ⟨407, Str.ofString "Authentication", 41, true, []⟩
def knownS (turn drop : Nat) : List Svc := ((idx turn).filter (keeps drop)).map svcAt

def refOr (r : Option Addr) : Value := match r with
  | some C => .ref C
  | none => .none
theorem findRef_of {Ss : List Svc} {p : Svc → Bool} {r : Option Addr} (h : (Ss.find? p).map (·.C) = r) : findRef Ss p = refOr r := by
  subst h
  unfold findRef
  cases Ss.find? p <;> rfl

theorem known_len : ∀ turn < 13, ∀ drop < 16, (knownS turn drop).length = if 12 < drop then 13 else 12 := by decide +kernel
theorem known_1 : ∀ r < 13, ∀ turn < 13, ∀ drop < 16, ((knownS turn drop).find? fun T => T.sid == (svcAt r).sid).map (·.C) = if keeps drop r then some (svcAt r).C else none := by decide +kernel
theorem known_2 : ∀ r < 13, ∀ turn < 13, ∀ drop < 16, ((knownS turn drop).find? fun T => T.sid + 64 == (svcAt r).sid + 64).map (·.C) = if keeps drop r then some (svcAt r).C else none := by decide +kernel
theorem known_3 : ∀ r < 13, ∀ turn < 13, ∀ drop < 16, ((knownS turn drop).find? fun T => T.sid == (svcAt r).sid + 64).map (·.C) = none := by decide +kernel
theorem known_4 : ∀ r < 13, ∀ turn < 13, ∀ drop < 16, ((knownS turn drop).find? fun T => T.sid + 64 == (svcAt r).sid).map (·.C) = none := by decide +kernel

/-! the main loop: the second cell of the frame changes from turn to turn -/
section
variable {prog : Program} {w : World} {A : Around} {E : Value → Shared → Prop} {s : Shared} {env : Env} {h₀ : Heap} {x : Str} {body : List Stmt} {Q : Flow → Shared → Prop}

theorem news_sub {L : Addr} {h : Heap} {a b : List (Addr × Obj)} (N : News h₀ L h a) (k : ∀ p ∈ b, p ∈ a) : News h₀ L h b := fun p hp => N p (k p hp)

theorem mem_in {α : Type} {p a b : α} {own rest : List α} (hp : p ∈ a :: b :: (own ++ rest)) : p ∈ own ++ a :: b :: rest := by
  simp only [List.mem_cons, List.mem_append] at hp ⊢
  rcases hp with q | q | q | q
  · exact .inr (.inl q)
  · exact .inr (.inr (.inl q))
  · exact .inl q
  · exact .inr (.inr (.inr q))
theorem mem_out {α : Type} {p a b : α} {own rest : List α} (hp : p ∈ own ++ a :: b :: rest) : p ∈ a :: b :: (own ++ rest) := by
  simp only [List.mem_cons, List.mem_append] at hp ⊢
  rcases hp with q | q | q | q
  · exact .inr (.inr (.inl q))
  · exact .inl q
  · exact .inr (.inl q)
  · exact .inr (.inr (.inr q))

/-- what a turn leaves: any names, the second cell a cell still -/
def TurnedX (h₀ : Heap) (L c1 c2 : Addr) (o1 : Obj) (led : List (Addr × Obj)) (s : Shared) (Q : Flow → Shared → Prop) (f : Flow) (s₂ : Shared) : Prop :=
  match f with
  | .ret v => Q (.ret v) s₂
  | .brk => Q .next s₂
  | _ => ∃ h' tk' m' o₂ v₂, s₂ = { s with heap := h', toks := tk' } ∧ Fr h₀ L h' m' ∧ News h₀ L h' ((c1, o1) :: (c2, o₂) :: led) ∧ o₂.data = .cell v₂

theorem loop_cell {l c1 c2 : Addr} {o1 o2 : Obj} {v2 : Option Value} {vs : List Value} {nn : Nat} {m₀ : Str → Option Value} {rest : List (Addr × Obj)}
    (hh : A.handled = none) (hl : (l, listOf vs.toArray nn) ∈ rest) (hc : ∀ p ∈ rest, p.1 ≠ c2) (F : Fr h₀ env.locals s.heap m₀) (N : News h₀ env.locals s.heap ((c1, o1) :: (c2, o2) :: rest)) (h2 : o2.data = .cell v2)
    (turn : ∀ (v : Value) (m₁ : Str → Option Value) (h : Heap) (tk : Nat) (own : List (Addr × Obj)) (o₂ : Obj) (v₂ : Option Value), v ∈ vs → o₂.data = .cell v₂ → (∀ p ∈ own ++ rest, p.1 ≠ c2) → Fr h₀ env.locals h (fun y => if y = x then some v else m₁ y) → News h₀ env.locals h ((c1, o1) :: (c2, o₂) :: (own ++ rest)) →
      wpAny (model prog w) A (execs body env) (TurnedX h₀ env.locals c1 c2 o1 (own ++ rest) { s with heap := h, toks := tk } Q) E { s with heap := h, toks := tk })
    (done : ∀ (m₁ : Str → Option Value) (h : Heap) (tk : Nat) (o₂ : Obj) (v₂ : Option Value), o₂.data = .cell v₂ → Fr h₀ env.locals h m₁ → News h₀ env.locals h ((c1, o1) :: (c2, o₂) :: rest) → Q .next { s with heap := h, toks := tk }) :
    wpAny (model prog w) A (pyIter (.ref l)) (fun it s₂ => LoopAtV prog w A h₀ env x body Q E it s₂) E s := by
  have hl' : (l, listOf vs.toArray nn) ∈ (c1, o1) :: (c2, o2) :: rest := .tail _ (.tail _ hl)
  have hol : s.heap.get? l = some (listOf vs.toArray nn) := (N _ hl').1
  have hls : s.heap.IsList l vs.toArray := ⟨_, hol, rfl, nn, rfl⟩
  have hne : l ≠ s.heap.objs.size := Nat.ne_of_lt (Heap.lt_size hol)
  have hc2 : c2 < s.heap.objs.size := Heap.lt_size (N (c2, o2) (.tail _ (.head _))).1
  refine wpAny_pyIter_list hls ?_
  have W := Walks.list (prog := prog) (w := w) hh s.heap.objs.size l hne vs.toArray
  refine ⟨_, _, _, _, _, _, m₀, (c1, o1) :: (c2, o2) :: rest, (fun i m nx => ∃ o₂ v₂, nx = (c1, o1) :: (c2, o₂) :: rest ∧ o₂.data = .cell v₂), rfl, W, ?_, ?_, ?_, ⟨⟨_, Heap.get?_push_size _ rfl, rfl, rfl⟩, hls.at fun o e => Heap.get?_push_of_some _ e⟩, F.push _, (fun p hp => ⟨Heap.get?_push_of_some _ (N p hp).1, (N p hp).2⟩), ⟨o2, v2, rfl, h2⟩, ?_, ?_⟩
  · intro hm
    rcases List.mem_cons.mp hm with e | hm
    · exact absurd F.ns.lt (e ▸ Nat.lt_irrefl _)
    · exact (N _ hl').2.1 ((List.mem_singleton.mp hm).symm)
  · intro b hb
    rw [List.mem_singleton.mp hb]
    exact next_is_new F
  · intro p hp hI
    exact absurd (Heap.lt_size (N p hp).1) ((List.mem_singleton.mp hI) ▸ Nat.lt_irrefl _)
  · rintro i v m₁ nx s₁ own ⟨h, tk, rfl⟩ hi hP ⟨o₂, v₂, rfl, hv₂⟩ hoff hown _ _ _ F₁ N₁
    have hv : v ∈ vs := by simpa using Array.mem_of_getElem? hP
    have hne2 : ∀ p ∈ own ++ rest, p.1 ≠ c2 := by
      intro p hp
      rcases List.mem_append.mp hp with q | q
      · rcases List.mem_cons.mp (hown p q) with e | e
        · rw [e]; exact Nat.ne_of_gt hc2
        · rw [List.mem_singleton.mp e]; exact hc _ hl
      · exact hc p q
    have N₂ : News h₀ env.locals h ((c1, o1) :: (c2, o₂) :: (own ++ rest)) := news_sub N₁ fun p hp => mem_in hp
    refine wpAny_mono (turn v m₁ h tk own o₂ v₂ hv hv₂ hne2 F₁ N₂) (fun f s₂ q => ?_) fun _ _ e => e
    have fin : (∃ h' tk' m' o₃ v₃, s₂ = { { s with heap := h, toks := tk } with heap := h', toks := tk' } ∧ Fr h₀ env.locals h' m' ∧ News h₀ env.locals h' ((c1, o1) :: (c2, o₃) :: (own ++ rest)) ∧ o₃.data = .cell v₃) →
        LoopStepU h₀ env.locals [s.heap.objs.size] own (fun m nx' => ∃ o₂ v₂, nx' = (c1, o1) :: (c2, o₂) :: rest ∧ o₂.data = .cell v₂) { s with heap := h, toks := tk } .next s₂ := by
      rintro ⟨h', tk', m', o₃, v₃, e, F', N', hv₃⟩
      refine ⟨rfl, h', tk', m', (c1, o1) :: (c2, o₃) :: rest, e, F', news_sub N' (fun p hp => mem_out hp), ?_, o₃, v₃, rfl, hv₃⟩
      · intro p hp
        rcases List.mem_cons.mp hp with rfl | hp
        · exact hoff _ (.head _)
        · rcases List.mem_cons.mp hp with rfl | hp
          · exact hoff (c2, o₂) (.tail _ (.head _))
          · exact hoff p (.tail _ (.tail _ hp))
    cases f with
    | ret v => exact .ret q
    | brk => exact .brk q
    | next => exact .next (fin q)
    | cont => exact .cont (fin q)
  · rintro h' tk m' nx F' N' _ ⟨o₂, v₂, rfl, hv₂⟩
    exact done m' h' tk o₂ v₂ hv₂ F' N'
end
end

section
open PySem PySem.W PySem.Spec PySem.Calls PyProof.Rows
set_option maxRecDepth 100000
section
variable {prog : Program} {w : World} {A : Around} {E : Value → Shared → Prop} {s : Shared} {env : Env} {h₀ : Heap} {L : Addr} {m : Str → Option Value}

theorem paired_map {g : Value → Value} : ∀ {vs ys : List Value}, Paired (fun v y => y = g v) vs ys → ys = vs.map g := by
  intro vs ys h
  induction h with
  | nil => rfl
  | cons e _ ih => rw [List.map_cons, ← ih, e]

/-- a comprehension over a list of objects, each element a function of the item -/
theorem comp_refs {elt iter : Expr} {x y : Str} {px py : Pos} {ifs : List Expr} {scope : Scope} {cl : List (Str × Addr)} {pos spos : Pos} {Q : Flow → Shared → Prop} {pz : Value → Bool} {g : Value → Value}
    (_ : Fr h₀ L s.heap m) (hsw : swapsWith (.ListComp elt [⟨.Name x px, iter, ifs, 0⟩] scope pos) (some (.Name y py)) spos.line env = pure true) (hL : env.locals = L)
    (hh : A.handled = none) (hclos : closureFor scope env = pure cl) (hcell : ∀ z ∈ scope.names, z.2 ≠ .cell) (hkind : scope.kind = .function)
    (hnames : ∀ z ∈ scope.names, z.2 = .local → scope.names.lookup z.1 = some .local) (hx : scope.names.lookup x = some .local)
    (hy : env.kindOf y = some .local) (hp : (env.scope.kind == .class || (env.scope.kind == .module && env.locals != env.globals)) = false)
    (h : wpAny (model prog w) A (eval iter env) (fun xv s₁ => ∃ (news : List (Addr × Obj)) (ax : Addr) (vs : List Value), xv = .ref ax ∧ s₁.heap.IsList ax vs.toArray ∧ vs.length ≤ sizeLine ∧ Fr h₀ L s₁.heap m ∧ News h₀ L s₁.heap news ∧
      (∀ C v s₂ m₂ E', v ∈ vs → s₂.heap.Ns (compEnvC scope cl C env).locals m₂ → m₂ x = some v → Fr h₀ L s₂.heap m → News h₀ L s₂.heap news →
        wpAny (model prog w) A (forIn ifs true fun c r => if r = true then do let ok ← isTrue c (compEnvC scope cl C env) (eval c (compEnvC scope cl C env)); pure (ForInStep.yield ok) else pure (ForInStep.yield r))
          (fun ok s₃ => ok = pz v ∧ Keeps s₂ s₃) E' s₂) ∧
      (∀ C v s₂ m₂ E', v ∈ vs → pz v = true → s₂.heap.Ns (compEnvC scope cl C env).locals m₂ → m₂ x = some v → Fr h₀ L s₂.heap m → News h₀ L s₂.heap news →
        wpAny (model prog w) A (eval elt (compEnvC scope cl C env)) (fun y s₃ => y = g v ∧ Keeps s₂ s₃) E' s₂) ∧
      (∀ D h' tk nn, Fr h₀ L h' (fun z => if z = y then some (.ref D) else m z) → News h₀ L h' ((D, listOf ((vs.filter pz).map g).toArray nn) :: news) → (∀ p ∈ news, p.1 ≠ D) → Q .next { s₁ with heap := h', toks := tk })) E s)
    (hs : ∀ x, foldedSetIterable iter env x = pure x) :
    wpAny (model prog w) A (exec (.Assign [.Name y py] (.ListComp elt [⟨.Name x px, iter, ifs, 0⟩] scope pos) spos) env) Q E s := by
  subst hL
  refine wpAny_Assign_ListComp_free pz (fun v y => y = g v) hsw hclos hcell hkind hnames hx hy hp (wpAny_mono h (fun xv s₁ h₁ => ?_) fun _ _ e => e) hs
  obtain ⟨news, ax, vs, rfl, hl, hsz, F, N, htests, helt, hQ⟩ := h₁
  have hlt : ax < s₁.heap.objs.size := by obtain ⟨_, e, _⟩ := hl; exact Heap.lt_size e
  have up : ∀ (s₃ : Shared), (∀ b o, b ∉ [s₁.heap.objs.size] → (s₁.heap.push { cls := .type "list_iterator", data := .fields #[.ref ax, .int 0 0] }).get? b = some o → s₃.heap.get? b = some o) → ∀ b o, s₁.heap.get? b = some o → s₃.heap.get? b = some o :=
    fun s₃ hk b o e => hk b o (fun hm => by rcases List.mem_cons.mp hm with rfl | hm; exact Nat.lt_irrefl _ (Heap.lt_size e); cases hm) (Heap.get?_push_of_some _ e)
  refine wpAny_pyIter_list hl ⟨s₁.heap.objs.size, [s₁.heap.objs.size, ax], [s₁.heap.objs.size], vs.toArray.size, _, _, m, rfl, Walks.list hh _ _ (Nat.ne_of_lt hlt) vs.toArray, (by rw [List.size_toArray]; exact hsz), ⟨⟨_, Heap.get?_push_size _ rfl, rfl, rfl⟩, hl.push _⟩, ?_, ?_, F.ns.push _, ⟨?_, ?_⟩, ?_⟩
  · intro b hb
    show b < (s₁.heap.push _).objs.size
    rw [Heap.size_push]
    rcases List.mem_cons.mp hb with rfl | hb
    · exact Nat.lt_succ_self _
    · rcases List.mem_cons.mp hb with rfl | hb
      · exact Nat.lt_succ_of_lt hlt
      · cases hb
  · intro hm
    rcases List.mem_cons.mp hm with e | hm
    · exact Nat.lt_irrefl _ (e ▸ F.ns.lt)
    · cases hm
  · intro C i v s₃ m₃ E' _ hP hn hm hk _
    exact htests C v s₃ m₃ E' (by simpa using Array.mem_of_getElem? hP) hn hm (F.keeps (up s₃ hk)) (N.grown (up s₃ hk))
  · intro C i v s₃ m₃ E' _ hP hp' hn hm hk _
    exact helt C v s₃ m₃ E' (by simpa using Array.mem_of_getElem? hP) hp' hn hm (F.keeps (up s₃ hk)) (N.grown (up s₃ hk))
  · intro D h' tk ys vs' hnew hlD hplD hlen hP hF hn' hk
    have e : vs' = vs := by simpa using list_of_places hlen hP
    subst e
    have keep : ∀ b o, b ≠ env.locals → s₁.heap.get? b = some o → h'.get? b = some o := fun b o hb e =>
      hk b o hb (fun hm => by rcases List.mem_cons.mp hm with rfl | hm; exact Nat.lt_irrefl _ (Heap.lt_size e); cases hm) (Heap.get?_push_of_some _ e)
    have hDL : D ≠ env.locals := by
      rintro rfl
      obtain ⟨o, _, _, ho, _⟩ := F.ns
      rw [Heap.get?_push_of_some _ ho] at hnew
      cases hnew
    have hD0 : h₀.get? D = none := by
      cases e : h₀.get? D with
      | none => rfl
      | some o' => rw [Heap.get?_push_of_some _ (F.keep _ _ e)] at hnew; cases hnew
    have hys := paired_map hF
    obtain ⟨nn, ho⟩ := hplD
    refine hQ D h' tk nn ⟨hn', fun b o e => keep b o (Nat.ne_of_lt (Nat.lt_of_lt_of_le (Heap.lt_size e) F.above)) (F.keep b o e), F.above⟩ (fun p hp => ?_) fun p hp e => ?_
    · rcases List.mem_cons.mp hp with rfl | hp
      · refine ⟨?_, hDL, hD0⟩
        rw [ho, ← hys, Array.toArray_toList]
      · exact ⟨keep _ _ (N p hp).2.1 (N p hp).1, (N p hp).2⟩
    · rw [← e, Heap.get?_push_of_some _ (N p hp).1] at hnew; cases hnew
end
end

section
open PySem PySem.W PySem.Spec PySem.Calls PyProof.Rows
set_option maxRecDepth 100000
def adr (ls : List Addr) (i : Nat) : Addr := (ls[i]?).getD 0

theorem RowAt.mono {a b : List (Addr × Obj)} {l : Addr} {S : Svc} (r : RowAt a l S) (k : ∀ p ∈ a, p ∈ b) : RowAt b l S := by
  obtain ⟨tup, tn, ti, vs, m1, m2, hi⟩ := r
  exact ⟨tup, tn, ti, vs, k _ m1, k _ m2, hi⟩
theorem RowsAre.mono {a b : List (Addr × Obj)} (k : ∀ p ∈ a, p ∈ b) : ∀ {ls : List Addr} {Ss : List Svc}, RowsAre a ls Ss → RowsAre b ls Ss
  | [], [], _ => trivial
  | _ :: _, _ :: _, ⟨r, t⟩ => ⟨r.mono k, RowsAre.mono k t⟩
theorem RowsAt.mono {a b : List (Addr × Obj)} {l : Addr} {ls : List Addr} (R : RowsAt a l ls) (k : ∀ p ∈ a, p ∈ b) : RowsAt b l ls := ⟨k _ R.list, R.rows.mono k, R.rise, R.top⟩
theorem RowsAre.len {a : List (Addr × Obj)} : ∀ {ls : List Addr} {Ss : List Svc}, RowsAre a ls Ss → ls.length = Ss.length
  | [], [], _ => rfl
  | _ :: _, _ :: _, ⟨_, t⟩ => by rw [List.length_cons, List.length_cons, t.len]
theorem RowsAre.get {a : List (Addr × Obj)} : ∀ {ls : List Addr} {Ss : List Svc} {i : Nat} {S : Svc}, RowsAre a ls Ss → Ss[i]? = some S → ∃ l, ls[i]? = some l ∧ RowAt a l S
  | [], [], _, _, _, h => by simp at h
  | [], _ :: _, _, _, R, _ => R.elim
  | _ :: _, [], _, _, R, _ => R.elim
  | l :: _, _ :: _, 0, S, ⟨r, _⟩, h => by
    rw [List.getElem?_cons_zero] at h
    cases h
    exact ⟨l, rfl, r⟩
  | _ :: _, _ :: _, i + 1, S, ⟨_, t⟩, h => by
    rw [List.getElem?_cons_succ] at h
    obtain ⟨l, e, r⟩ := t.get h
    exact ⟨l, by rw [List.getElem?_cons_succ]; exact e, r⟩
theorem svc_get {i : Nat} (hi : i < 13) : svcs[i]? = some (svcAt i) := by
  have : ∀ i < 13, (svcs[i]?).isSome = true := by decide +kernel
  unfold svcAt
  cases h : svcs[i]? with
  | none => have := this i hi; rw [h] at this; cases this
  | some S => rfl
theorem svc_mem {i : Nat} (hi : i < 13) : svcAt i ∈ svcs := List.mem_of_getElem? (svc_get hi)
section
variable {led : List (Addr × Obj)} {l : Addr} {ls : List Addr}
theorem RowsAt.len (R : RowsAt led l ls) : ls.length = 13 := R.rows.len
theorem RowsAt.adr (R : RowsAt led l ls) {i : Nat} (hi : i < 13) : ls[i]? = some (adr ls i) := by
  unfold Mine.adr
  rw [List.getElem?_eq_getElem (by rw [R.len]; exact hi)]
  rfl
theorem RowsAt.row (R : RowsAt led l ls) {i : Nat} (hi : i < 13) : RowAt led (Mine.adr ls i) (svcAt i) := by
  obtain ⟨a, e, r⟩ := R.rows.get (svc_get hi)
  rw [R.adr hi] at e
  cases e
  exact r
theorem RowsAt.get (R : RowsAt led l ls) {i : Nat} (hi : i < 13) : (ls.map Value.ref)[i]? = some (.ref (Mine.adr ls i)) := by
  rw [List.getElem?_map, R.adr hi]
  rfl
end
theorem RowsAt.at {a own : List (Addr × Obj)} {h₀ h : Heap} {L l : Addr} {ls : List Addr} {c d e : Addr × Obj} (R : RowsAt a l ls) (_ : News h₀ L h (c :: e :: (own ++ d :: a))) : RowsAt (own ++ d :: a) l ls :=
  R.mono fun _ hp => List.mem_append_right own (List.mem_cons_of_mem _ hp)
theorem ints_mem {v : Value} : ∀ {vs : List Value} {ns : List Int}, IntsAre vs ns → v ∈ vs → ∃ n t, v = .int n t := by
  intro vs ns h hv
  induction h with
  | nil => cases hv
  | cons n t _ ih =>
    rcases List.mem_cons.mp hv with e | q
    · exact ⟨_, _, e⟩
    · exact ih q
end

section
open PySem PySem.W PySem.Spec PySem.Calls PyProof.Rows
set_option maxRecDepth 100000
theorem pick_from {vs : List Value} {k : Int} (h : 0 ≤ k) : kms_pick vs (some k) none = vs.drop k.toNat := by
  unfold kms_pick kms_lo kms_hi
  dsimp only
  rw [if_neg (by omega)]
  rcases Nat.le_total k.toNat vs.length with q | q
  · rw [Nat.min_eq_left q]
    exact List.take_of_length_le (by rw [List.length_drop]; exact Nat.le_refl _)
  · rw [Nat.min_eq_right q, Nat.sub_self, List.take_zero]
    exact (List.drop_eq_nil_of_le q).symm
theorem pick_to {vs : List Value} {k : Int} (h : 0 ≤ k) : kms_pick vs none (some k) = vs.take k.toNat := by
  unfold kms_pick kms_lo kms_hi
  dsimp only
  rw [if_neg (by omega), List.drop_zero, Nat.sub_zero]
  rcases Nat.le_total k.toNat vs.length with q | q
  · rw [Nat.min_eq_left q]
  · rw [Nat.min_eq_right q, List.take_of_length_le (Nat.le_refl _), List.take_of_length_le q]
end

section
open PySem PySem.W PySem.Spec PySem.Calls PyProof.Rows
set_option maxRecDepth 100000
/-- which rows stay, and what the comprehension takes of each -/
def pick (ls : List Addr) (d : Nat) (v : Value) : Bool := match v with
  | .ref a => decide (12 < d) || a != adr ls d
  | _ => false
def clsOf (ls : List Addr) (v : Value) : Value := match v with
  | .ref a => .ref (svcAt (ls.idxOf a)).C
  | _ => .none
theorem fm (a : Int) {k : Int} (hk : 0 < k) : 0 ≤ a.fmod k ∧ a.fmod k < k := ⟨Int.fmod_nonneg_of_pos a hk, Int.fmod_lt_of_pos a hk⟩
theorem fmN (a : Int) : (a.fmod 13).toNat < 13 := by
  have := fm a (k := 13) (by decide)
  omega

theorem rising_nodup : ∀ {ls : List Addr}, Rising ls → ls.Nodup
  | [], _ => List.nodup_nil
  | a :: as, h => List.nodup_cons.mpr ⟨fun m => Nat.lt_irrefl _ (h.1 a m), rising_nodup h.2⟩
section
variable {led : List (Addr × Obj)} {l : Addr} {ls : List Addr}
theorem RowsAt.adrE (R : RowsAt led l ls) {i : Nat} (hi : i < 13) : Mine.adr ls i = ls[i]'(by rw [R.len]; exact hi) := by
  unfold Mine.adr
  rw [List.getElem?_eq_getElem (by rw [R.len]; exact hi)]
  rfl
theorem RowsAt.idx (R : RowsAt led l ls) {i : Nat} (hi : i < 13) : ls.idxOf (Mine.adr ls i) = i := by
  rw [R.adrE hi]
  exact (rising_nodup R.rise).idxOf_getElem i _
theorem RowsAt.inj (R : RowsAt led l ls) {i j : Nat} (hi : i < 13) (hj : j < 13) : (Mine.adr ls i != Mine.adr ls j) = (i != j) := by
  by_cases e : i = j
  · subst e; simp
  · have : Mine.adr ls i ≠ Mine.adr ls j := fun q => e (by rw [← R.idx hi, ← R.idx hj, q])
    rw [bne_iff_ne.mpr this, bne_iff_ne.mpr e]
theorem RowsAt.pickIs (R : RowsAt led l ls) {i d : Nat} (hi : i < 13) : pick ls d (.ref (Mine.adr ls i)) = keeps d i := by
  unfold pick keeps
  dsimp only
  by_cases h : 12 < d
  · rw [decide_eq_true h, Bool.true_or, Bool.true_or]
  · rw [R.inj hi (by omega)]
theorem RowsAt.clsIs (R : RowsAt led l ls) {i : Nat} (hi : i < 13) : clsOf ls (.ref (Mine.adr ls i)) = .ref (svcAt i).C := by
  unfold clsOf
  dsimp only
  rw [R.idx hi]
theorem RowsAt.all (R : RowsAt led l ls) : ls.map Value.ref = (List.range 13).map fun i => Value.ref (Mine.adr ls i) := by
  refine List.ext_getElem? fun i => ?_
  by_cases hi : i < 13
  · rw [R.get hi, List.getElem?_map, List.getElem?_range hi]
    rfl
  · rw [List.getElem?_eq_none (by rw [List.length_map, R.len]; omega), List.getElem?_eq_none (by simp; omega)]
theorem idx_lt {t i : Nat} (h : i ∈ idx t) : i < 13 := by
  unfold idx at h
  rcases List.mem_append.mp h with q | q
  · exact List.mem_range.mp (List.mem_of_mem_drop q)
  · exact List.mem_range.mp (List.mem_of_mem_take q)
theorem RowsAt.turned (R : RowsAt led l ls) (t : Nat) : (ls.map Value.ref).drop t ++ (ls.map Value.ref).take t = (Mine.idx t).map fun i => Value.ref (Mine.adr ls i) := by
  rw [R.all, ← List.map_drop, ← List.map_take, ← List.map_append]
  rfl
theorem RowsAt.known (R : RowsAt led l ls) (t d : Nat) : (((ls.map Value.ref).drop t ++ (ls.map Value.ref).take t).filter (pick ls d)).map (clsOf ls) = (knownS t d).map fun S => Value.ref S.C := by
  rw [R.turned, List.filter_map, List.map_map]
  unfold knownS
  rw [List.map_map]
  have e : (Mine.idx t).filter (pick ls d ∘ fun i => Value.ref (Mine.adr ls i)) = (Mine.idx t).filter (keeps d) := List.filter_congr fun i hi => R.pickIs (idx_lt hi)
  rw [e]
  exact List.map_congr_left fun i hi => R.clsIs (idx_lt (List.mem_filter.mp hi).1)
theorem RowsAt.every (R : RowsAt led l ls) : ((ls.map Value.ref).filter fun _ => true).map (clsOf ls) = svcs.map fun S => Value.ref S.C := by
  have e : svcs = (List.range 13).map svcAt := by
    refine List.ext_getElem? fun i => ?_
    by_cases hi : i < 13
    · rw [svc_get hi, List.getElem?_map, List.getElem?_range hi]
      rfl
    · rw [List.getElem?_eq_none (by show svcs.length ≤ i; unfold svcs; simp only [List.length_cons, List.length_nil]; omega), List.getElem?_eq_none (by simp; omega)]
  have f : (ls.map Value.ref).filter (fun _ => true) = ls.map Value.ref := List.filter_eq_self.mpr fun _ _ => rfl
  rw [f, R.all, List.map_map, e, List.map_map]
  exact List.map_congr_left fun i hi => R.clsIs (List.mem_range.mp hi)
theorem RowsAt.memIs (R : RowsAt led l ls) {t : Nat} {v : Value} (h : v ∈ (ls.map Value.ref).drop t ++ (ls.map Value.ref).take t) : ∃ i < 13, v = .ref (Mine.adr ls i) := by
  rw [R.turned] at h
  obtain ⟨i, hi, rfl⟩ := List.mem_map.mp h
  exact ⟨i, idx_lt hi, rfl⟩
theorem RowsAt.memAll (R : RowsAt led l ls) {v : Value} (h : v ∈ ls.map Value.ref) : ∃ i < 13, v = .ref (Mine.adr ls i) := by
  rw [R.all] at h
  obtain ⟨i, hi, rfl⟩ := List.mem_map.mp h
  exact ⟨i, List.mem_range.mp hi, rfl⟩
end
theorem known_in {t d : Nat} {S : Svc} (h : S ∈ knownS t d) : S ∈ svcs := by
  obtain ⟨i, hi, rfl⟩ := List.mem_map.mp h
  exact svc_mem (idx_lt (List.mem_filter.mp hi).1)

section
variable {prog : Program} {w : World} {M : Model} {A : Around} {E : Value → Shared → Prop} {s : Shared} {Q : Value → Shared → Prop}
theorem isnotB {a b : Addr} {oa ob : Obj} (ha : s.heap.get? a = some oa) (hb : s.heap.get? b = some ob) (hc : oa.cls ≠ Value.type "tuple") (hq : Q (.bool (a != b)) s) : wpAny M A (compareOp .IsNot (.ref a) (.ref b)) Q E s := by
  by_cases e : a = b
  · subst e
    refine isnot_ref_same ?_
    rw [bne_self_eq_false] at hq
    exact hq
  · rw [bne_iff_ne.mpr e] at hq
    exact kto_isnot ha hb e hc hq
end
theorem rowIs {led led2 : List (Addr × Obj)} {l : Addr} {ls : List Addr} {i : Nat} {h₀ h : Heap} {L : Addr} (R : RowsAt led l ls) (N : News h₀ L h led2) (hs : ∀ p ∈ led, p ∈ led2) (hi : i < 13) : ∃ tup tn ti, h.get? (adr ls i) = some (rowObj (svcAt i) tup tn ti) := by
  obtain ⟨tup, tn, ti, _, m1, _⟩ := R.row hi
  exact ⟨tup, tn, ti, (N _ (hs _ m1)).1⟩
theorem isnot_rows {M : Model} {A : Around} {E Q : Value → Shared → Prop} {s : Shared} {led led2 : List (Addr × Obj)} {l : Addr} {ls : List Addr} {i j : Nat} {h₀ : Heap} {L : Addr} (R : RowsAt led l ls) (N : News h₀ L s.heap led2) (hs : ∀ p ∈ led, p ∈ led2) (hi : i < 13) (hj : j < 13)
    (hq : Q (.bool (i != j)) s) : wpAny M A (compareOp .IsNot (.ref (adr ls i)) (.ref (adr ls j))) Q E s := by
  obtain ⟨_, _, _, h1⟩ := rowIs R N hs hi
  obtain ⟨_, _, _, h2⟩ := rowIs R N hs hj
  refine isnotB h1 h2 (by intro z; exact absurd (Value.type.inj z) (by decide)) ?_
  rw [R.inj hi hj]
  exact hq
theorem row_item0 {prog : Program} {w : World} {A : Around} {E Q : Value → Shared → Prop} {s : Shared} {value slice : Expr} {led led2 : List (Addr × Obj)} {l : Addr} {ls : List Addr} {i : Nat} {h₀ : Heap} {L : Addr} {t : Tok} (R : RowsAt led l ls) (N : News h₀ L s.heap led2) (hs : ∀ p ∈ led, p ∈ led2) (hi : i < 13)
    (hq : Q (.ref (svcAt i).C) s) (hsub : subscripted slice false (.ref (adr ls i)) (.int 0 t) = operate [.ref (adr ls i), .int 0 t] (getItem (.ref (adr ls i)) (.int 0 t))) (hg : ∀ r, letTemporaryGo value (.ref (adr ls i)) r = pure ()) :
    wpAny (model prog w) A (subscriptTail value slice (.ref (adr ls i)) (.int 0 t)) Q E s := by
  obtain ⟨tup, tn, ti, _, m1, _⟩ := R.row hi
  exact item_listL (l := [_, _, _, _, _]) (News.isList N (hs _ m1)) (by decide) (by decide) rfl hq hsub hg
end

section
open PySem PySem.W PySem.Spec PySem.Calls PyProof.Rows
set_option maxRecDepth 100000
section
variable {prog : Program} {w : World} {p : Program} {loose : List Str} {mean : ExcName → Option Value} {mg mb : Str → Option Value} {news : List (Addr × Obj)} {lr l : Addr} {nn r t d : Nat} {held : Bool}
theorem told_k (R : RowAt news lr (svcAt r)) (hr : r < 13) : Ctr prog w p loose mean mg mb 12 1479 news [.ref lr] (fun _ => .bool true) :=
  have q := clsOk w _ (svc_mem hr)
  told_c R q.1 q.2.1 q.2.2.1 q.2.2.2
theorem found_k (R : RowAt news lr (svcAt r)) (hl : (l, listOf ((knownS t d).map fun S => Value.ref S.C).toArray nn) ∈ news) (hr : r < 13) (ht : t < 13) (hd : d < 16) (hk : keeps d r = held) :
    Ctr prog w p loose mean mg mb 3 1486 news [.ref lr, .ref l, .bool held] (fun _ => .bool true) := by
  have e1 := findRef_of (known_1 r hr t ht d hd)
  have e2 := findRef_of (known_2 r hr t ht d hd)
  have e3 := findRef_of (known_3 r hr t ht d hd)
  have e4 := findRef_of (known_4 r hr t ht d hd)
  rw [hk] at e1 e2
  refine found_c R hl (fun S h => (clsOk w S (known_in h)).1) (fun S h => (clsOk w S (known_in h)).2.2.1) (clsOk w _ (svc_mem hr)).2.2.1 ?_ ?_ e3 e4
  · rw [e1]; cases held <;> rfl
  · rw [e2]; cases held <;> rfl
theorem known_all : knownS 0 13 = svcs := by
  unfold knownS idx svcs
  rfl
theorem found_all (R : RowAt news lr (svcAt r)) (hl : (l, listOf (svcs.map fun S => Value.ref S.C).toArray nn) ∈ news) (hr : r < 13) :
    Ctr prog w p loose mean mg mb 3 1486 news [.ref lr, .ref l, .bool true] (fun _ => .bool true) :=
  found_k (t := 0) (d := 13) R (by rw [known_all]; exact hl) hr (by decide) (by decide) (by unfold keeps; rfl)
theorem supp_k {code : Int} {k : Tok} (hr : r < 13) : Ctr prog w p loose mean mg mb 2 232 news [.ref (svcAt r).C, .int code k] (fun _ => .bool (mayB (svcAt r).us (svcAt r).codes code)) :=
  supp_c (clsOk w _ (svc_mem hr)).1 code k
end
theorem may_126 {r : Nat} (hr : r < 13) : mayB (svcAt r).us (svcAt r).codes 126 = (svcAt r).us := by
  have : ∀ r < 13, mayB (svcAt r).us (svcAt r).codes 126 = (svcAt r).us := by decide +kernel
  exact this r hr
/-- what the walk asks of the class of row r -/
theorem clsR (w : World) {r : Nat} (hr : r < 13) : readsIn (hd.heap_39 w.params) (svcAt r).C (.type "type") = true ∧ typeIn (hd.heap_39 w.params) (.ref (svcAt r).C) = some (.type "type") ∧ specialIn (hd.heap_39 w.params) (.ref (svcAt r).C) "__getattribute__" = some (some (.builtin "type.__getattribute__")) ∧
    findCls (hd.heap_39 w.params) (.ref (svcAt r).C) (.type "type") "is_supported_negative_response" = some (.get (.builtin "classmethod.__get__") (.ref 234) .none (.ref (svcAt r).C)) :=
  have q := (clsOk w _ (svc_mem hr)).1
  ⟨q.reads, q.ty, q.spec, q.iid⟩
theorem news_d7 {h₀ h : Heap} {L : Addr} {a b c d e x y : Addr × Obj} {rest : List (Addr × Obj)} (N : News h₀ L h (a :: b :: c :: d :: e :: x :: y :: rest)) : News h₀ L h (a :: x :: y :: rest) :=
  news_sub N fun p hp => by
    simp only [List.mem_cons] at hp ⊢
    rcases hp with q | q | q | q
    · exact .inl q
    · exact .inr (.inr (.inr (.inr (.inr (.inl q)))))
    · exact .inr (.inr (.inr (.inr (.inr (.inr (.inl q))))))
    · exact .inr (.inr (.inr (.inr (.inr (.inr (.inr q))))))
theorem isnot_b {M : Model} {A : Around} {E Q : Value → Shared → Prop} {s : Shared} {led led2 : List (Addr × Obj)} {l : Addr} {ls : List Addr} {i j : Nat} {h₀ : Heap} {L : Addr} {b : Bool} (R : RowsAt led l ls) (N : News h₀ L s.heap led2) (hs : ∀ p ∈ led, p ∈ led2) (hi : i < 13) (hj : j < 13) (hb : (i != j) = b)
    (hq : Q (.bool b) s) : wpAny M A (compareOp .IsNot (.ref (adr ls i)) (.ref (adr ls j))) Q E s := isnot_rows R N hs hi hj (hb ▸ hq)
theorem len_known {prog : Program} {w : World} {A : Around} {E Q : Value → Shared → Prop} {s : Shared} {led : List (Addr × Obj)} {D L : Addr} {h₀ : Heap} {nn t d k : Nat} (N : News h₀ L s.heap led) (hm : (D, listOf ((knownS t d).map fun S => Value.ref S.C).toArray nn) ∈ led) (ht : t < 13) (hd : d < 16) (hk : (if 12 < d then 13 else 12) = k)
    (hq : Q (.int (k : Nat) (s.toks + 1)) { s with toks := s.toks + 1 + 1 }) : wpAny (model prog w) A (call (.builtin "len") [.ref D]) Q E s := by
  have e := known_len t ht d hd
  rw [hk] at e
  have h2 : k ≤ 13 := by rw [← hk]; split <;> decide
  have e2 : (List.toArray ((knownS t d).map fun S => Value.ref S.C)).size = k := by rw [List.size_toArray, List.length_map, e]
  refine len_list (N.isList hm) (by rw [e2]; omega) ?_
  rw [e2]
  exact hq
theorem news_3 {h₀ h : Heap} {L : Addr} {a x y : Addr × Obj} {rest : List (Addr × Obj)} (N : News h₀ L h (a :: x :: y :: rest)) : News h₀ L h (x :: y :: rest) := news_sub N fun _ hp => List.mem_cons_of_mem _ hp
theorem turn_end {h₀ h' : Heap} {L c1 c2 : Addr} {o1 o₂ : Obj} {v₂ : Option Value} {a : Addr × Obj} {led : List (Addr × Obj)} {s s₂ : Shared} {Q : Flow → Shared → Prop} {m' : Str → Option Value} {tk' : Nat} (F : Fr h₀ L h' m') (N : News h₀ L h' (a :: (c1, o1) :: (c2, o₂) :: led)) (h : o₂.data = .cell v₂)
    (hs : s₂ = { s with heap := h', toks := tk' }) : TurnedX h₀ L c1 c2 o1 led s Q .next s₂ := ⟨h', tk', m', o₂, v₂, hs, F, news_3 N, h⟩
theorem RowsAt.at2 {a : List (Addr × Obj)} {h₀ h : Heap} {L l : Addr} {ls : List Addr} {c d e : Addr × Obj} (R : RowsAt a l ls) (_ : News h₀ L h (c :: e :: d :: a)) : RowsAt (d :: a) l ls :=
  R.mono fun _ hp => List.mem_cons_of_mem _ hp
theorem Fr.know {h₀ h : Heap} {L : Addr} {m : Str → Option Value} {x y : Str} {u : Option Value} {v : Value} (F : Fr h₀ L h (fun z => if z = y then u else m z)) (hJ : m x = some v) : Fr h₀ L h (fun z => if z = y then u else if z = x then some v else m z) := by
  have e : m = fun z => if z = x then some v else m z := by
    funext z
    by_cases q : z = x
    · rw [if_pos q, q, hJ]
    · rw [if_neg q]
  have F2 := F
  rw [e] at F2
  exact F2
theorem row_item3 {prog : Program} {w : World} {A : Around} {E Q : Value → Shared → Prop} {s : Shared} {value slice : Expr} {led led2 : List (Addr × Obj)} {l : Addr} {ls : List Addr} {i : Nat} {h₀ : Heap} {L : Addr} {t : Tok} (R : RowsAt led l ls) (N : News h₀ L s.heap led2) (hs : ∀ p ∈ led, p ∈ led2) (hi : i < 13)
    (hq : Q (.bool (svcAt i).us) s) (hsub : subscripted slice false (.ref (adr ls i)) (.int 3 t) = operate [.ref (adr ls i), .int 3 t] (getItem (.ref (adr ls i)) (.int 3 t))) (hg : ∀ r, letTemporaryGo value (.ref (adr ls i)) r = pure ()) :
    wpAny (model prog w) A (subscriptTail value slice (.ref (adr ls i)) (.int 3 t)) Q E s := by
  obtain ⟨tup, tn, ti, _, m1, _⟩ := R.row hi
  exact item_listL (l := [_, _, _, _, _]) (News.isList N (hs _ m1)) (by decide) (by decide) rfl hq hsub hg
theorem news_tail {h₀ h : Heap} {L : Addr} {a : Addr × Obj} {rest : List (Addr × Obj)} (N : News h₀ L h (a :: rest)) : News h₀ L h rest := news_sub N fun _ hp => List.mem_cons_of_mem _ hp
theorem turnc_end {h₀ h' : Heap} {L : Addr} {led : List (Addr × Obj)} {s s₂ : Shared} {Q : Flow → Shared → Prop} {m' : Str → Option Value} {tk' : Nat} (F : Fr h₀ L h' m') (N : News h₀ L h' led) (hs : s₂ = { s with heap := h', toks := tk' }) : TurnC h₀ L True m' led s Q .next s₂ := ⟨h', tk', hs, F, N, trivial⟩
theorem turned_end {h₀ h' : Heap} {L : Addr} {led : List (Addr × Obj)} {s s₂ : Shared} {Q : Flow → Shared → Prop} {m' : Str → Option Value} {tk' : Nat} {J : (Str → Option Value) → Prop} (F : Fr h₀ L h' m') (N : News h₀ L h' led) (hj : J m') (hs : s₂ = { s with heap := h', toks := tk' }) : Turned h₀ L J led s Q .next s₂ := ⟨h', tk', m', hs, F, N, hj⟩
end

section
open PySem PySem.W PySem.Spec PySem.Calls PyProof.Rows
set_option maxRecDepth 100000
theorem entry_unchain : entryFor table "proto.unchain" = some Builtin.«proto.unchain» := entryFor_of_fast (by kernel_rfl)
section
variable {prog : Program} {w : World} {A : Around} {E : Value → Shared → Prop} {s : Shared} {K : Frag} {C : Addr} {name : Str} {t : Tok}

/-- the exception at hand here, if any, has no exception ahead of it -/
def AtHand (A : Around) (h : Heap) : Prop := ∃ e oe ws, A.handled = some (.ref e) ∧ h.get? e = some oe ∧ oe.data = .fields ws ∧ ws[2]? = some .none

theorem raise_attrH {α : Type} {msg : Str} {Q : α → Shared → Prop} (H : AtHand A s.heap) (hm : msg.length ≤ sizeLine)
    (h : ∀ h' tk e, NewAttrErr s.heap h' e → E (.ref e) { s with heap := h', toks := tk }) : wpAny (model prog w) A (raiseErrorStr "AttributeError" msg : Sem α) Q E s := by
  obtain ⟨e, oe, ws, hA, he, hd, h2⟩ := H
  have hlt : e < s.heap.objs.size := Heap.lt_size he
  unfold raiseErrorStr
  refine wpAny_bind (wpAny_mkStr (wpAny_bind ?_) hm)
  unfold newExc newTuple
  refine wpAny_bind (wpAny_newObj_type ?_)
  refine wpAny_bind (m := firstArgMember _ _) (wpAny_of_eq (a := Value.none) (by simp only [firstArgMember, show ((Manifest.find? "AttributeError").elim false fun t => t.mro.contains "StopIteration" || t.mro.contains "SystemExit") = false from by decide +kernel]; rfl) ?_)
  refine wpAny_newObj_type ?_
  unfold raiseNew
  refine wpAny_bind (wpAny_handled ?_)
  rw [hA]
  dsimp only
  have hne : (Value.ref e != Value.ref (s.heap.push { cls := .type "tuple", data := .seq [Value.str msg s.toks].toArray }).objs.size) = true := by
    refine bne_iff_ne.mpr fun q => ?_
    rw [Heap.size_push] at q
    exact absurd hlt (by rw [Value.ref.inj q]; exact Nat.not_lt.mpr (Nat.le_succ _))
  rw [if_pos hne]
  refine wpAny_bind (wpAny_holding (wpAny_runValue (codeAny_builtin entry_unchain ?_)))
  unfold Builtin.«proto.unchain»
  dsimp only
  refine wpAny_bind (wpAny_field (Heap.get?_push_of_some _ (Heap.get?_push_of_some _ he)) hd h2 ?_)
  rw [if_pos (show (Value.none == Value.none) = true from rfl)]
  refine wpAny_bind (wpAny_pure (wpAny_pure ?_))
  dsimp only
  refine wpAny_bind ?_
  unfold updateField
  refine wpAny_bind (wpAny_load (Heap.get?_push_size _ rfl) ?_)
  dsimp only
  rw [if_pos (show 2 < (#[Value.ref s.heap.objs.size, Value.none, Value.none, Value.none, Value.bool false, Value.none] ++ ownMembersOf (Value.type "AttributeError") [Value.str msg s.toks]).size from by rw [Array.size_append]; exact Nat.lt_of_lt_of_le (by decide) (Nat.le_add_right 6 _))]
  refine wpAny_update (Heap.get?_push_size _ rfl) (wpAny_throw (h _ _ _ ⟨fun b o hb => ?_, Heap.get?_none_of_le (by simp), ?_⟩))
  · have hlb : b < s.heap.objs.size := Heap.lt_size hb
    rw [Heap.get?_update_other _ _ (by rw [Heap.size_push]; exact Nat.ne_of_gt (Nat.lt_succ_of_lt hlb))]
    exact Heap.get?_push_of_some _ (Heap.get?_push_of_some _ hb)
  · refine ⟨_, Heap.get?_update_self _ (Heap.get?_push_size _ rfl) (Obj.isFreed_of_fields (Obj.data_mapFields rfl _)), ?_⟩
    exact Obj.cls_mapFields _ _

theorem tga_missH {cd : ClassData} {Q : Fin → Shared → Prop} (X : K.In s.heap) (ho : nsIn K cStatics "thirdparty.any" = some none) (ht : typeIn K (.ref C) = some (.type "type"))
    (hn : findIn K (.type "type") name = some none) (hc : findIn K (.ref C) name = some none) (hd : clsIn K C = some cd) (hl : cd.name.cps.foldl (fun k c => k + (Str.utf8Of c).length) 0 ≤ 100)
    (hm : (missText cd.name name).length ≤ sizeLine) (hh : AtHand A s.heap)
    (h : ∀ h' tk e, NewAttrErr s.heap h' e → E (.ref e) { s with heap := h', toks := tk }) : wpAny (model prog w) A (Builtin.«type.__getattribute__» ⟨[.ref C, .str name t], []⟩) Q E s := by
  unfold Builtin.«type.__getattribute__»
  refine wpAny_bind (wpAny_pure (wpAny_bind ((looks_opaque X ho).here (wpAny_bind ((looks_typeIn X ht).here (wpAny_bind ((looks_findIn (t := .type "type") X hn).here ?_)))))))
  dsimp only
  refine wpAny_bind (wpAny_pure ?_)
  refine wpAny_bind ((looks_findIn X hc).here ?_)
  dsimp only
  refine wpAny_bind (wpAny_rule ?_)
  refine wpAny_bind ?_
  unfold typeNameCut
  refine wpAny_bind ((looks_clsIn X hd).here ?_)
  rw [if_pos hl]
  exact wpAny_pure (raise_attrH hh hm h)

theorem hasattr_missH {cd : ClassData} {Q : Value → Shared → Prop} (X : K.In s.heap) (hr : readsIn K C (.type "type") = true) (hn : fastLookup "type" name = some none) (hc : findIn K (.ref C) name = some none)
    (hd : clsIn K C = some cd) (hl : cd.name.cps.foldl (fun k c => k + (Str.utf8Of c).length) 0 ≤ 100) (hmt : (missText cd.name name).length ≤ sizeLine)
    (hm : instIn K (.ref C) (.type "module") = some false) (hh : AtHand A s.heap)
    (h : ∀ h' tk e, NewAttrErr s.heap h' e → Q (.bool false) { s with heap := h', toks := tk }) :
    wpAny (model prog w) A (call (.builtin "hasattr") [.ref C, .str name t]) Q E s := by
  simp only [readsIn, Bool.and_eq_true, beq_iff_eq] at hr
  obtain ⟨⟨⟨⟨a, b⟩, c'⟩, d⟩, f⟩ := hr
  refine hasattr_open X b hn hm ?_
  unfold getAttrBy?
  refine wpAny_bind (wpAny_attempt (getBy_open X b c' f (tga_missH X a b hn hc hd hl hmt hh fun h' tk e x => ?_)))
  unfold getattributeRaised
  refine wpAny_bind (isInst_attr x ?_)
  rw [if_pos rfl]
  unfold hookBehind
  rw [if_neg (by decide)]
  refine wpAny_bind ((looks_findIn (K := K) (t := .type "type") (name := "__getattr__") (r := none) (X.keeps x.keeps) (by show fastLookup _ _ = _; decide +kernel)).here ?_)
  unfold hookOrError attributeErrorLeaves
  dsimp only
  rw [if_pos (show (!false) = true from rfl)]
  refine wpAny_bind (wpAny_throw ?_)
  refine wpAny_bind (isInst_attr x ?_)
  rw [if_pos rfl]
  exact wpAny_pure (h h' tk e x)
end
end

section
open PySem PySem.W PySem.Spec PySem.Calls PyProof.Rows
set_option maxRecDepth 100000
/-- where an exception stands: its class, its trace's head, no exception ahead of it -/
def Aim (base h : Heap) (e : Addr) (cls fl : Value) : Prop :=
  ∃ oe vs T oT ts, h.get? e = some oe ∧ oe.cls = cls ∧ oe.data = .fields vs ∧ vs[1]? = some (.ref T) ∧ vs[2]? = some .none ∧ base.get? T = none ∧ T ≠ e ∧ h.get? T = some oT ∧ oT.data = .fields ts ∧ ts[3]? = some fl
structure Fly (base : Heap) (l : List Env) (e : Addr) (cls fl : Value) (h : Heap) : Prop where
  stays : base.StaysIn h
  new : base.get? e = none
  frames : h.FunFrames base l
  aim : Aim base h e cls fl

section
variable {M : Model} {A : Around} {E : Value → Shared → Prop} {s : Shared} {base : Heap} {env : Env} {l outer : List Env} {L e : Addr} {cls fl : Value} {Q : Unit → Shared → Prop}

/-- one field of a record set: all else stands -/
theorem set_up {h : Heap} {b : Addr} {o : Obj} {vs : Array Value} (i : Nat) (x : Value) (hb : h.get? b = some o) (hd : o.data = .fields vs) : h.UpToSlots (h.update b (Obj.mapFields (·.setIfInBounds i x))) := fun c oc hc hn =>
  ⟨oc.slots, (Heap.get?_update_other _ _ fun q => by rw [← q, hb] at hc; cases hc; exact hn vs hd).trans hc⟩
theorem set_stays {h : Heap} {b : Addr} (i : Nat) (x : Value) (hb : base.get? b = none) (hk : base.StaysIn h) : base.StaysIn (h.update b (Obj.mapFields (·.setIfInBounds i x))) := fun c oc hc =>
  (Heap.get?_update_other _ _ fun q => by rw [← q, hb] at hc; cases hc).trans (hk c oc hc)
theorem up_frames {h h' : Heap} (u : h.UpToSlots h') (hl : h.FunFrames base l) : h'.FunFrames base l :=
  hl.of_keeps fun b o hb hn => let ⟨_, q⟩ := u b o hb hn; ⟨_, q, rfl⟩

theorem flight_off (x : Fly base l e cls fl s.heap) (h : ∀ h', Fly base l e cls .none h' → s.heap.UpToSlots h' → Q () { s with heap := h' }) : wpAny M A (setFlight (.ref e) none) Q E s := by
  obtain ⟨kb, hen, hl, oe, vs, T, oT, ts, he, hc, hd, h1, h2, hnT, hTe, hT, hdT, h3⟩ := x
  have h3s : 3 < ts.size := (Array.getElem?_eq_some_iff.mp h3).1
  unfold setFlight
  refine wpAny_bind (wpAny_field he hd h1 ?_)
  rw [if_pos (show (Value.ref T != Value.none) = true from by simp)]
  have u := set_up 3 Value.none hT hdT
  refine wpAny_setField hT hdT h3s (h _ ⟨set_stays 3 _ hnT kb, hen, up_frames u hl, oe, vs, T, _, _, (Heap.get?_update_other _ _ hTe).trans he, hc, hd, h1, h2, hnT, hTe, Heap.get?_update_self _ hT (Obj.isFreed_of_fields (Obj.data_mapFields hdT _)), Obj.data_mapFields hdT _, ?_⟩ u)
  show (ts.setIfInBounds 3 Value.none)[3]? = some Value.none
  simp [h3s]

theorem entryC {oe : Obj} {vs : Array Value} {head : Value} {hadNext : Bool} (hfr : A.frames = some (env :: outer)) (hl : s.heap.FunFrames base (env :: outer)) (hf : env.frame = some L)
    (he : s.heap.get? e = some oe) (kb : base.StaysIn s.heap) (hen : base.get? e = none) (hd : oe.data = .fields vs) (h2 : vs[2]? = some .none)
    (h : ∀ h', Fly base (env :: outer) e oe.cls (rawInt L) h' → s.heap.UpToSlots h' → Q () { s with heap := h' }) :
    wpAny M A (do let a ← frameOf env; let pl ← entryPlaceOf L hadNext; let b ← EntryCells.newEntry head a .none (rawInt L) .none pl; setField (.ref e) 1 b) Q E s := by
  have hsz : 2 < vs.size := (Array.getElem?_eq_some_iff.mp h2).1
  refine wpAny_bind (wpAny_frameOf_fun hfr hl hf fun h₁ hs₁ => ?_)
  refine wpAny_bind (wpAny_entryPlaceOf fun pl hpl => ?_)
  unfold EntryCells.newEntry newFields
  refine wpAny_bind (wpAny_newObj_type ?_ (hpl.sizeOk5 _ _ _ _ _))
  have he₁ : h₁.get? e = some oe := (hs₁.2.1 e fun hm => by
    obtain ⟨_, o, ho, hnf⟩ := hl.mem hm
    rw [he] at ho; cases ho; exact hnf vs hd).trans he
  have kb₁ : base.StaysIn h₁ := fun b o hbo => (hs₁.2.1 b fun hm => by rw [(hl.mem hm).1] at hbo; cases hbo).trans (kb b o hbo)
  have u₁ : s.heap.UpToSlots h₁ := fun b o hb _ => hs₁.2.2 b o hb
  generalize hts : ([head, Value.ref L, .none, rawInt L, .none] ++ (if pl.isEmpty then List.replicate 6 Value.none else pl)).toArray = ts
  have h3 : ts[3]? = some (rawInt L) := by rw [← hts]; rfl
  have he₂ := Heap.get?_push_of_some (h := h₁) { cls := .type "traceback", dict := none, data := .fields ts } he₁
  have u₂ : s.heap.UpToSlots (h₁.push { cls := .type "traceback", dict := none, data := .fields ts }) := u₁.trans (Heap.UpToSlots.of_keeps fun b o hb => Heap.get?_push_of_some _ hb)
  have u₃ := u₂.trans (set_up 1 (Value.ref h₁.objs.size) he₂ hd)
  have hTe : h₁.objs.size ≠ e := Nat.ne_of_gt (Heap.lt_size he₁)
  refine wpAny_setField he₂ hd (Nat.lt_of_succ_lt hsz) (h _ ⟨set_stays 1 _ hen fun b o hb => Heap.get?_push_of_some _ (kb₁ b o hb), hen, up_frames u₃ hl, _, _, h₁.objs.size, _, ts, Heap.get?_update_self _ he₂ (Obj.isFreed_of_fields (Obj.data_mapFields hd _)), Obj.cls_mapFields _ _, Obj.data_mapFields hd _, ?_, ?_, kb₁.fresh, hTe, (Heap.get?_update_other _ _ (Ne.symm hTe)).trans (Heap.get?_push_size h₁ rfl), rfl, h3⟩ u₃)
  · show (vs.setIfInBounds 1 (Value.ref h₁.objs.size))[1]? = _
    simp [Nat.lt_of_succ_lt hsz]
  · show (vs.setIfInBounds 1 (Value.ref h₁.objs.size))[2]? = _
    rw [Array.getElem?_setIfInBounds_ne (by decide)]
    exact h2

theorem note_first {oe : Obj} {vs : Array Value} (hfr : A.frames = some (env :: outer)) (hl : s.heap.FunFrames base (env :: outer)) (hf : env.frame = some L)
    (he : s.heap.get? e = some oe) (kb : base.StaysIn s.heap) (hen : base.get? e = none) (hd : oe.data = .fields vs) (h1 : vs[1]? = some .none) (h2 : vs[2]? = some .none)
    (h : ∀ h', Fly base (env :: outer) e oe.cls (rawInt L) h' → s.heap.UpToSlots h' → Q () { s with heap := h' }) : wpAny M A (noteFrame (.ref e) env) Q E s := by
  unfold noteFrame
  simp only [hf]
  refine wpAny_bind (wpAny_field he hd h1 ?_)
  rw [if_neg (by decide)]
  exact entryC hfr hl hf he kb hen hd h2 h

theorem note_next (hfr : A.frames = some (env :: outer)) (hf : env.frame = some L) (x : Fly base (env :: outer) e cls .none s.heap)
    (h : ∀ h', Fly base (env :: outer) e cls (rawInt L) h' → s.heap.UpToSlots h' → Q () { s with heap := h' }) : wpAny M A (noteFrame (.ref e) env) Q E s := by
  obtain ⟨kb, hen, hl, oe, vs, T, oT, ts, he, hc, hd, h1, h2, hnT, hTe, hT, hdT, h3⟩ := x
  subst hc
  have h3s : 3 < ts.size := (Array.getElem?_eq_some_iff.mp h3).1
  unfold noteFrame
  simp only [hf]
  refine wpAny_bind (wpAny_field he hd h1 ?_)
  rw [if_pos (show (Value.ref T != Value.none) = true from by simp)]
  refine wpAny_bind (wpAny_field hT hdT h3 ?_)
  rw [if_neg (show ¬ ((Value.none == rawInt L) = true) from by simp [rawInt])]
  have u := set_up 3 Value.none hT hdT
  refine wpAny_bind (wpAny_setField hT hdT h3s ?_)
  exact entryC hfr (up_frames u hl) hf ((Heap.get?_update_other _ _ hTe).trans he) (set_stays 3 _ hnT kb) hen hd h2 fun h' y v => h h' y (u.trans v)
end
end

section
open PySem PySem.W PySem.Spec PySem.Calls PyProof.Rows
set_option maxRecDepth 100000
section
variable {prog : Program} {w : World} {A : Around} {E : Value → Shared → Prop} {s : Shared} {base h g : Heap} {outer : List Env} {L a e : Addr} {m : Str → Option Value} {cn : Str} {cs : Scope} {cd : Value} {cls : Value} {vs : List Value}

theorem Fly.pop {env : Env} {fl : Value} (x : Fly base (env :: outer) e cls fl h) : Fly base outer e cls fl h := ⟨x.stays, x.new, x.frames.2.2, x.aim⟩

/-- a frame is left by an exception made in it -/
theorem leave_made {Q : Unit → Shared → Prop} (B : Below A base outer g) (F : Fr g L h m) (hx : Heap.MadeExcOf h s.heap e cls vs) (hk : cs.kind = .function)
    (hQ : ∀ h', Fly base outer e cls .none h' → g.UpToSlots h' → Q () { s with heap := h' }) :
    wpAny (model prog w) (A.deeper (envOf cn cs L a cd)) (leaving (envOf cn cs L a cd) (.ref e)) Q E s := by
  have B' := B.push (name := cn) (a := a) (cd := cd) F hk
  obtain ⟨t, he, _, _⟩ := hx.there
  have up := (Heap.UpToSlots.of_keeps F.keep).trans (Heap.UpToSlots.of_keeps hx.keeps)
  have hn : base.get? e = none := by
    cases q : base.get? e with
    | none => rfl
    | some o => have := B'.stays e o q; rw [hx.new] at this; cases this
  unfold leaving
  refine wpAny_bind (note_first (Around.frames_deeper B.stack) (B'.frames.of_keeps fun b o hb _ => ⟨o, hx.keeps b o hb, rfl⟩) rfl he (fun b o hb => hx.keeps b o (B'.stays b o hb)) hn rfl rfl rfl fun h₁ x₁ u₁ => ?_)
  exact flight_off x₁ fun h₂ x₂ u₂ => hQ h₂ x₂.pop ((up.trans u₁).trans u₂)
end

section
variable {prog : Program} {w : World} {A : Around} {E : Value → Shared → Prop} {s : Shared} {K : Frag} {h₀ h : Heap} {outer : List Env} {L a e : Addr} {m mg mb : Str → Option Value} {cn : Str} {cs : Scope} {ccd : Value} {cl : List (Str × Addr)} {p : Program} {loose : List Str} {b₀ : Stmt} {suite : List Stmt} {pos np : Pos} {Q : Flow → Shared → Prop}

theorem catchC (hfr : A.frames = some (envX cn cs L a ccd cl :: outer)) (x : Fly h₀ (envX cn cs L a ccd cl :: outer) e (.type "ValueError") .none s.heap) (u : h.UpToSlots s.heap) (F : Fr h₀ L h m) (X : K.In h₀) (T : TopRead p loose mg mb h₀) (hx : nsIn K mainGlobals "ValueError" = some none)
    (hk : cs.kind = .function) (hkn : (envX cn cs L a ccd cl).kindOf "ValueError" = some .globalImplicit)
    (k : ∀ h' oe ws, Fr h₀ L h' m → oe.data = .fields ws → ws[2]? = some .none → News h₀ L h' [(e, oe)] → wpAny (model prog w) (A.mark (some (.ref e))) (execs (b₀ :: suite) (envX cn cs L a ccd cl)) Q (fun _ _ => False) { s with heap := h' }) :
    wpAny (model prog w) A (noteFrame (.ref e) (envX cn cs L a ccd cl))
      (fun _ s₂ => wpAny (model prog w) A (setFlight (.ref e) none) (fun _ s₃ => wpAny (model prog w) A (handleBy (.ref e) (envX cn cs L a ccd cl) [.ExceptHandler (some (.Name "ValueError" np)) none (b₀ :: suite) pos]) Q E s₃) E s₂) E s := by
  refine note_next hfr rfl x fun h₁ x₁ u₁ => ?_
  refine flight_off x₁ fun h₂ x₂ u₂ => ?_
  have fr : ∀ {h' : Heap} {fl : Value}, Fly h₀ (envX cn cs L a ccd cl :: outer) e (.type "ValueError") fl h' → h.UpToSlots h' → Fr h₀ L h' m := fun y v => ⟨v.ns F.ns, y.stays, F.above⟩
  have F₂ := fr x₂ ((u.trans u₁).trans u₂)
  refine wpAny_handleBy_builtin (X := "ValueError") (T := "ValueError") (b := true) PySem.F.isExc_ValueError PySem.F.notTuple_ValueError (by rw [isSubtype_type]; kernel_rfl)
    (nameX_B F₂ X T hx PyProof.Rows.Boot.«ValueError» (by decide) ⟨rfl, ?_, ?_⟩ hk hkn)
  · obtain ⟨oe, _, _, _, _, he, hc, _⟩ := x₂.aim
    exact ⟨oe, he, hc⟩
  · rw [if_pos rfl]
    refine flight_off x₂ fun h₃ x₃ u₃ => ?_
    obtain ⟨oe, ws, _, _, _, he, _, hd, _, h2, _⟩ := x₃.aim
    have F₃ := fr x₃ (((u.trans u₁).trans u₂).trans u₃)
    refine wpAny_mono (k h₃ oe ws F₃ hd h2 fun q hq => ?_) (fun _ _ z => z) fun _ _ z => z.elim
    rw [List.mem_singleton.mp hq]
    refine ⟨he, fun z => ?_, x₃.new⟩
    obtain ⟨_, _, _, ho, hd', _⟩ := F₃.ns
    rw [← z, he] at ho
    cases ho
    rw [hd] at hd'
    cases hd'

/-- the same for the frame of a def whose names are captured -/
theorem catchL (hfr : A.frames = some (envOfC cn cs L a ccd :: outer)) (x : Fly h₀ (envOfC cn cs L a ccd :: outer) e (.type "ValueError") .none s.heap) (u : h.UpToSlots s.heap) (F : Fr h₀ L h m) (X : K.In h₀) (T : TopRead p loose mg mb h₀) (hx : nsIn K mainGlobals "ValueError" = some none)
    (hk : cs.kind = .function) (hkn : (envOfC cn cs L a ccd).kindOf "ValueError" = some .globalImplicit)
    (k : ∀ h' oe ws, Fr h₀ L h' m → oe.data = .fields ws → ws[2]? = some .none → News h₀ L h' [(e, oe)] → wpAny (model prog w) (A.mark (some (.ref e))) (execs (b₀ :: suite) (envOfC cn cs L a ccd)) Q (fun _ _ => False) { s with heap := h' }) :
    wpAny (model prog w) A (noteFrame (.ref e) (envOfC cn cs L a ccd))
      (fun _ s₂ => wpAny (model prog w) A (setFlight (.ref e) none) (fun _ s₃ => wpAny (model prog w) A (handleBy (.ref e) (envOfC cn cs L a ccd) [.ExceptHandler (some (.Name "ValueError" np)) none (b₀ :: suite) pos]) Q E s₃) E s₂) E s :=
  catchC (cl := cellsFrom (L + 1) cs.names []) hfr x u F X T hx hk hkn k
end
end

section
open PySem PySem.W PySem.Spec PySem.Calls PyProof.Rows
set_option maxRecDepth 100000
set_option rowWalk.seconds 0
local macro_rules | `(tactic| walk_at "callWith ref") => `(tactic| (k_here; k_dflt (first | (refine' callWith_M0 ?k1 ?k2 ?_; (case k1 => k_meth); (case k2 => k_is); k_whole; try dsimp only [List.nil_append, List.cons_append]) | (refine' callWith_M ?k1 ?k2 ?k3 ?k4 ?_; (case k1 => k_asm); (case k2 => k_asm); (case k3 => k_mem); (case k4 => k_is); k_whole))))
theorem looks_int {M : Model} {h : Heap} : Looks M h (isType (.type "int")) true := by
  intro A Q E s k q
  exact wpAny_pure q

local macro_rules | `(tactic| k_all) => `(tactic| first | exact List.forall_mem_nil _ | (with_reducible assumption) | (refine' List.forall_mem_cons.mpr ⟨?a, ?b⟩; (case a => k_ne); (case b => k_all)))
local macro_rules | `(tactic| walk_at "call ref") => `(tactic| (k_here; k_dflt (refine wpAny_call ?_; (with_reducible show codeAny _ _ (Code.call (Value.ref 1465) _) _ _); refine' rows_c ?B ?F ?X ?N ?T ?hk ?hd ?hu ?_; (case B => k_asm); (case F => k_asm); (case X => k_asm); (case N => k_asm); (case T => k_asm); (case hk => exact rfl); (case hd => ktr_room); (case hu => ktr_units)); intro l9 ls9 h9 tk9 own9 F9 N9 lt9 rows9; (dsimp only [List.cons_append, List.nil_append] at N9); (have off9 := List.forall_mem_cons.mp lt9); (have off1 := fun p hp => Ne.symm (Nat.ne_of_lt (off9.1 p hp))); (have off2 := fun p hp => Ne.symm (Nat.ne_of_lt ((List.forall_mem_cons.mp off9.2).1 p hp))); (dsimp only at off1 off2); (try dsimp only); (try k_sweep)))
local macro_rules | `(tactic| walk_at "exec For") => `(tactic| (k_here; (rename Fr _ _ _ _ => lF'); (with_unfolding_all refine' For_invVF lF' ?k1 ?k2 ?_; (case k1 => exact rfl); (case k2 => exact rfl); k_whole)))
local macro_rules | `(tactic| k_mem) => `(tactic| first | ktr_member | (with_reducible assumption) | (with_reducible exact List.mem_cons_self) | ((first | with_reducible refine List.mem_cons_of_mem _ ?_ | with_reducible refine List.mem_append_right _ ?_); (first | (with_reducible assumption) | (with_reducible exact List.mem_cons_self))) | ((first | with_reducible refine List.mem_cons_of_mem _ ?_ | with_reducible refine List.mem_append_right _ ?_); (first | with_reducible refine List.mem_cons_of_mem _ ?_ | with_reducible refine List.mem_append_right _ ?_); (first | (with_reducible assumption) | (with_reducible exact List.mem_cons_self))) | ((first | with_reducible refine List.mem_cons_of_mem _ ?_ | with_reducible refine List.mem_append_right _ ?_); (first | with_reducible refine List.mem_cons_of_mem _ ?_ | with_reducible refine List.mem_append_right _ ?_); (first | with_reducible refine List.mem_cons_of_mem _ ?_ | with_reducible refine List.mem_append_right _ ?_); (first | (with_reducible assumption) | (with_reducible exact List.mem_cons_self))) | ((first | with_reducible refine List.mem_cons_of_mem _ ?_ | with_reducible refine List.mem_append_right _ ?_); (first | with_reducible refine List.mem_cons_of_mem _ ?_ | with_reducible refine List.mem_append_right _ ?_); (first | with_reducible refine List.mem_cons_of_mem _ ?_ | with_reducible refine List.mem_append_right _ ?_); (first | with_reducible refine List.mem_cons_of_mem _ ?_ | with_reducible refine List.mem_append_right _ ?_); (first | (with_reducible assumption) | (with_reducible exact List.mem_cons_self))) | ((first | with_reducible refine List.mem_cons_of_mem _ ?_ | with_reducible refine List.mem_append_right _ ?_); (first | with_reducible refine List.mem_cons_of_mem _ ?_ | with_reducible refine List.mem_append_right _ ?_); (first | with_reducible refine List.mem_cons_of_mem _ ?_ | with_reducible refine List.mem_append_right _ ?_); (first | with_reducible refine List.mem_cons_of_mem _ ?_ | with_reducible refine List.mem_append_right _ ?_); (first | with_reducible refine List.mem_cons_of_mem _ ?_ | with_reducible refine List.mem_append_right _ ?_); (first | (with_reducible assumption) | (with_reducible exact List.mem_cons_self))) | ((first | with_reducible refine List.mem_cons_of_mem _ ?_ | with_reducible refine List.mem_append_right _ ?_); (first | with_reducible refine List.mem_cons_of_mem _ ?_ | with_reducible refine List.mem_append_right _ ?_); (first | with_reducible refine List.mem_cons_of_mem _ ?_ | with_reducible refine List.mem_append_right _ ?_); (first | with_reducible refine List.mem_cons_of_mem _ ?_ | with_reducible refine List.mem_append_right _ ?_); (first | with_reducible refine List.mem_cons_of_mem _ ?_ | with_reducible refine List.mem_append_right _ ?_); (first | with_reducible refine List.mem_cons_of_mem _ ?_ | with_reducible refine List.mem_append_right _ ?_); (first | (with_reducible assumption) | (with_reducible exact List.mem_cons_self))) | ((first | with_reducible refine List.mem_cons_of_mem _ ?_ | with_reducible refine List.mem_append_right _ ?_); (first | with_reducible refine List.mem_cons_of_mem _ ?_ | with_reducible refine List.mem_append_right _ ?_); (first | with_reducible refine List.mem_cons_of_mem _ ?_ | with_reducible refine List.mem_append_right _ ?_); (first | with_reducible refine List.mem_cons_of_mem _ ?_ | with_reducible refine List.mem_append_right _ ?_); (first | with_reducible refine List.mem_cons_of_mem _ ?_ | with_reducible refine List.mem_append_right _ ?_); (first | with_reducible refine List.mem_cons_of_mem _ ?_ | with_reducible refine List.mem_append_right _ ?_); (first | with_reducible refine List.mem_cons_of_mem _ ?_ | with_reducible refine List.mem_append_right _ ?_); (first | (with_reducible assumption) | (with_reducible exact List.mem_cons_self))) | ((first | with_reducible refine List.mem_cons_of_mem _ ?_ | with_reducible refine List.mem_append_right _ ?_); (first | with_reducible refine List.mem_cons_of_mem _ ?_ | with_reducible refine List.mem_append_right _ ?_); (first | with_reducible refine List.mem_cons_of_mem _ ?_ | with_reducible refine List.mem_append_right _ ?_); (first | with_reducible refine List.mem_cons_of_mem _ ?_ | with_reducible refine List.mem_append_right _ ?_); (first | with_reducible refine List.mem_cons_of_mem _ ?_ | with_reducible refine List.mem_append_right _ ?_); (first | with_reducible refine List.mem_cons_of_mem _ ?_ | with_reducible refine List.mem_append_right _ ?_); (first | with_reducible refine List.mem_cons_of_mem _ ?_ | with_reducible refine List.mem_append_right _ ?_); (first | with_reducible refine List.mem_cons_of_mem _ ?_ | with_reducible refine List.mem_append_right _ ?_); (first | (with_reducible assumption) | (with_reducible exact List.mem_cons_self))) | ((first | with_reducible refine List.mem_cons_of_mem _ ?_ | with_reducible refine List.mem_append_right _ ?_); (first | with_reducible refine List.mem_cons_of_mem _ ?_ | with_reducible refine List.mem_append_right _ ?_); (first | with_reducible refine List.mem_cons_of_mem _ ?_ | with_reducible refine List.mem_append_right _ ?_); (first | with_reducible refine List.mem_cons_of_mem _ ?_ | with_reducible refine List.mem_append_right _ ?_); (first | with_reducible refine List.mem_cons_of_mem _ ?_ | with_reducible refine List.mem_append_right _ ?_); (first | with_reducible refine List.mem_cons_of_mem _ ?_ | with_reducible refine List.mem_append_right _ ?_); (first | with_reducible refine List.mem_cons_of_mem _ ?_ | with_reducible refine List.mem_append_right _ ?_); (first | with_reducible refine List.mem_cons_of_mem _ ?_ | with_reducible refine List.mem_append_right _ ?_); (first | with_reducible refine List.mem_cons_of_mem _ ?_ | with_reducible refine List.mem_append_right _ ?_); (first | (with_reducible assumption) | (with_reducible exact List.mem_cons_self))) | (fail "k_mem"))
local macro_rules | `(tactic| walk_at "subscriptTail") => `(tactic| (k_here; (with_reducible show wpAny _ _ (subscriptTail _ _ (Value.ref _) (Value.int _ _)) _ _ _); (with_reducible rename RowsAt _ _ _ => R9'); k_dflt (refine' item_listL (News.isList (by k_asm) (by k_mem)) ?a ?b (R9'.get (fmN _)) ?_; (case a => exact (fm _ (by decide)).1); (case b => exact Int.lt_trans (fm _ (by decide)).2 (by decide)))))
local macro_rules | `(tactic| walk_at "subscriptTail Name Slice ref ref") => `(tactic| (k_here; (with_reducible show wpAny _ _ (subscriptTail _ (PySem.Expr.Slice (some _) none none _) (Value.ref _) (Value.ref _)) _ _ _); (with_reducible rename RowsAt _ _ _ => R9'); k_dflt (refine' kms_slice_lit ?F ?N ?l ?p ?q (pick_from ?e) ?_ ?s ?t ?z; (case F => k_asm); (case N => k_asm); (case l => exact News.isList (by k_asm) (by k_mem)); (case p => kmk_part); (case q => kmk_part); (case e => exact (fm _ (by decide)).1); (case s => with_unfolding_all rfl); (case t => kmk_pure); (case z => (rw [List.size_toArray, List.length_map, R9'.len, sizeLine_eq]; decide))); intro D' h' F' N' l1; (try k_lt l1); (try k_sweep)))
local macro_rules | `(tactic| walk_at "subscriptTail Name Slice ref ref") => `(tactic| (k_here; (with_reducible show wpAny _ _ (subscriptTail _ (PySem.Expr.Slice none (some _) none _) (Value.ref _) (Value.ref _)) _ _ _); (with_reducible rename RowsAt _ _ _ => R9'); k_dflt (refine' kms_slice_lit ?F ?N ?l ?p ?q (pick_to ?e) ?_ ?s ?t ?z; (case F => k_asm); (case N => k_asm); (case l => exact News.isList (by k_asm) (by k_mem)); (case p => kmk_part); (case q => kmk_part); (case e => exact (fm _ (by decide)).1); (case s => with_unfolding_all rfl); (case t => kmk_pure); (case z => (rw [List.size_toArray, List.length_map, R9'.len, sizeLine_eq]; decide))); intro D' h' F' N' l1; (try k_lt l1); (try k_sweep)))
local macro_rules | `(tactic| walk_at "binaryOp Add ref ref") => `(tactic| (k_here; (with_reducible show wpAny _ _ (binaryOp _ (Value.ref _) (Value.ref _)) _ _ _); (with_reducible rename RowsAt _ _ _ => R9'); k_dflt (refine' kmk_add_lit (its := List.toArray (List.drop _ _)) (its2 := List.toArray (List.take _ _)) ?F ?N ?a ?b ?e ?_ ?z; (case F => k_asm); (case N => k_asm); (case a => exact News.isList (by k_asm) (by k_mem)); (case b => exact News.isList (by k_asm) (by k_mem)); (case e => exact rfl); (case z => (show (List.drop _ _).length + (List.take _ _).length ≤ sizeLine); (rw [List.length_drop, List.length_take, List.length_map, R9'.len, sizeLine_eq]; omega))); intro D' h' F' N' l1; (try k_lt l1); (try k_sweep)))
local macro_rules | `(tactic| walk_at "call ref") => `(tactic| (k_here; (with_reducible rename RowsAt _ _ _ => R9'); k_dflt (refine wpAny_call ?_; (with_reducible show codeAny _ _ (Code.call (Value.ref 1479) _) _ _); refine' told_k ?R ?hr _ _ _ _ _ _ _ _ _ _ _ _ _ _ _ _ ?B ?F ?X ?N ?T ?hk ?hd ?hu ?_; (case N => k_asm); (case R => exact (R9'.row (by omega)).mono (by intro p hp; k_mem)); (case hr => omega); (case B => k_asm); (case F => k_asm); (case X => k_asm); (case T => k_asm); (case hk => exact rfl); (case hd => ktr_room); (case hu => ktr_units)); intro t9 h9 tk9 F9 N9; (try dsimp only); (try k_sweep)))
local macro_rules | `(tactic| walk_at "call ref") => `(tactic| (k_here; (with_reducible rename RowsAt _ _ _ => R9'); k_dflt (refine wpAny_call ?_; (with_reducible show codeAny _ _ (Code.call (Value.ref 1486) _) _ _); refine' found_k ?R ?hl ?hr ?ht ?hdd ?hkk _ _ _ _ _ _ _ _ _ _ _ _ _ _ _ _ ?B ?F ?X ?N ?T ?hk ?hd ?hu ?_; (case N => k_asm); (case R => exact (R9'.row (by omega)).mono (by intro p hp; k_mem)); (case hl => k_mem); (case hr => omega); (case ht => omega); (case hdd => omega); (case hkk => with_reducible assumption); (case B => k_asm); (case F => k_asm); (case X => k_asm); (case T => k_asm); (case hk => exact rfl); (case hd => ktr_room); (case hu => ktr_units)); intro t9 h9 tk9 F9 N9; (try dsimp only); (try k_sweep)))
local macro_rules | `(tactic| walk_at "call ref") => `(tactic| (k_here; (with_reducible rename RowsAt _ _ _ => R9'); k_dflt (refine wpAny_call ?_; (with_reducible show codeAny _ _ (Code.call (Value.ref 1472) _) _ _); refine' may_c ?R _ _ _ _ _ _ _ _ _ _ _ _ _ _ _ _ _ _ ?B ?F ?X ?N ?T ?hk ?hd ?hu ?_; (case N => k_asm); (case R => exact (R9'.row (by omega)).mono (by intro p hp; k_mem)); (case B => k_asm); (case F => k_asm); (case X => k_asm); (case T => k_asm); (case hk => exact rfl); (case hd => ktr_room); (case hu => ktr_units)); intro t9 h9 tk9 F9 N9; (try dsimp only); (try k_sweep)))
local macro_rules | `(tactic| walk_at "call ref") => `(tactic| (k_here; k_dflt (refine' call_meth ?k1 ?k2 ?_; (case k1 => k_asm); (case k2 => k_mem); (with_reducible show codeAny _ _ (Code.call (Value.ref 232) _) _ _); refine' supp_k ?hr _ _ _ _ _ _ _ _ _ _ _ _ _ _ _ _ ?B ?F ?X ?N ?T ?hk ?hd ?hu ?_; (case N => k_asm); (case hr => omega); (case B => k_asm); (case F => k_asm); (case X => k_asm); (case T => k_asm); (case hk => exact rfl); (case hd => ktr_room); (case hu => ktr_units)); intro t9 h9 tk9 F9 N9; (try dsimp only); (try k_sweep)))
local macro_rules | `(tactic| walk_at "call builtin:len") => `(tactic| (k_here; k_dflt (refine' len_known ?N ?m ?t ?d ?k ?_; (case N => k_asm); (case m => k_mem); (case t => omega); (case d => omega); (case k => with_reducible assumption))))
local macro_rules | `(tactic| walk_at "compareOp IsNot ref ref") => `(tactic| (k_here; (with_reducible show wpAny _ _ (compareOp CmpOp.IsNot (Value.ref _) (Value.ref _)) _ _ _); (with_reducible rename RowsAt _ _ _ => R9'); k_dflt (refine' isnot_rows R9' ?N ?s ?hi ?hj ?_; (case N => k_asm); (case s => (intro p hp; k_mem)); (case hi => omega); (case hj => omega))))
local macro_rules | `(tactic| walk_at "compareOp IsNot ref ref") => `(tactic| (k_here; (with_reducible show wpAny _ _ (compareOp CmpOp.IsNot (Value.ref _) (Value.ref _)) _ _ _); (with_reducible rename RowsAt _ _ _ => R9'); k_dflt (refine' isnot_b R9' ?N ?s ?hi ?hj ?hb ?_; (case N => k_asm); (case s => (intro p hp; k_mem)); (case hi => omega); (case hj => omega); (case hb => with_reducible assumption))))
local macro_rules | `(tactic| walk_at "subscriptTail") => `(tactic| (k_here; (with_reducible show wpAny _ _ (subscriptTail _ _ (Value.ref _) (Value.int _ _)) _ _ _); (with_reducible rename RowsAt _ _ _ => R9'); k_dflt (refine' item_listL (News.isList (by k_asm) (by k_mem)) ?a ?b (R9'.get ?c) ?_; (case a => exact (fm _ (by decide)).1); (case b => exact Int.lt_trans (fm _ (by decide)).2 (by decide)); (case c => omega))))
local macro_rules | `(tactic| walk_at "call ref") => `(tactic| (k_here; (with_reducible rename RowsAt _ _ _ => R9'); k_dflt (refine wpAny_call ?_; (with_reducible show codeAny _ _ (Code.call (Value.ref 1486) _) _ _); refine' found_all ?R ?hl ?hr _ _ _ _ _ _ _ _ _ _ _ _ _ _ _ _ ?B ?F ?X ?N ?T ?hk ?hd ?hu ?_; (case N => k_asm); (case R => exact (R9'.row (by omega)).mono (by intro p hp; k_mem)); (case hl => k_mem); (case hr => omega); (case B => k_asm); (case F => k_asm); (case X => k_asm); (case T => k_asm); (case hk => exact rfl); (case hd => ktr_room); (case hu => ktr_units)); intro t9 h9 tk9 F9 N9; (try dsimp only); (try k_sweep)))
local macro_rules | `(tactic| walk_at "getMethod ref") => `(tactic| (k_here; k_dflt (refine' method_of_cls ?k1 ?k2 ?k3 ?_; (case k1 => k_asm); (case k2 => k_asm); (case k3 => with_reducible assumption); k_whole)))
local macro_rules | `(tactic| walk_at "getAttr ref") => `(tactic| (k_here; k_dflt (refine' cls_cm ?k1 ?k2 ?k3 ?k4 ?k5 ?k6 ?k7 ?_; (case k1 => k_asm); (case k2 => k_asm); (case k3 => k_asm); (case k4 => with_reducible assumption); (case k5 => with_reducible assumption); (case k6 => with_reducible assumption); (case k7 => k_is); k_whole); intro q' h' F' N' l1; (try k_lt l1)))
local macro_rules | `(tactic| k_is) => `(tactic| with_reducible assumption)
local macro_rules | `(tactic| walk_at "getMethod ref") => `(tactic| (k_here; k_dflt (refine' kmu_cm ?k1 ?k2 ?k3 ?k4 ?k5 ?k6 ?k7 ?k8 ?k9 ?k10 ?k11 ?k12 ?k13 ?_; (case k1 => k_asm); (case k2 => k_asm); (case k3 => k_asm); (case k4 => k_inst); (case k5 => with_reducible assumption); (case k6 => with_reducible assumption); (case k7 => with_reducible assumption); (case k8 => k_is); (case k9 => k_is); (case k10 => k_is); (case k11 => decide +kernel); (case k12 => k_get); (case k13 => k_is); k_whole; intro q' h' F' N' l1; (try k_lt l1); (try k_sweep))))
local macro_rules | `(tactic| walk_at "subscriptTail") => `(tactic| (k_here; (with_reducible show wpAny _ _ (subscriptTail _ _ (Value.ref _) (Value.int 0 _)) _ _ _); (with_reducible rename RowsAt _ _ _ => R9'); k_dflt (refine' row_item0 R9' ?N ?s ?hi ?_ ?x ?y; (case N => k_asm); (case s => (intro p hp; k_mem)); (case hi => omega); (case x => with_unfolding_all rfl); (case y => (intro _; with_unfolding_all rfl)))))
local macro_rules | `(tactic| walk_at "subscriptTail") => `(tactic| (k_here; (with_reducible show wpAny _ _ (subscriptTail _ _ (Value.ref _) (Value.int 3 _)) _ _ _); (with_reducible rename RowsAt _ _ _ => R9'); k_dflt (refine' row_item3 R9' ?N ?s ?hi ?_ ?x ?y; (case N => k_asm); (case s => (intro p hp; k_mem)); (case hi => omega); (case x => with_unfolding_all rfl); (case y => (intro _; with_unfolding_all rfl)))))
local macro_rules | `(tactic| walk_at "exec Try") => `(tactic| (k_here; (with_reducible show wpAny _ _ (exec (Stmt.Try _ (_ :: _) _ [] _) (envOfC _ _ _ _ _)) _ _ _); refine wpAny_Try_except ?_))
local macro_rules | `(tactic| walk_at "call builtin:issubclass") => `(tactic| (k_here; refine issub_call (r := false) (K := hd.heap_39 _) (by k_in) (by k_dflt k_is) (by k_dflt k_is) looks_int (by k_dflt k_is) ?_))
local macro_rules | `(tactic| walk_at "leaving ref") => `(tactic| (k_here; refine' leave_made ?k1 ?k2 (Heap.MadeExc.of (by assumption)) ?k4 ?_; (case k1 => assumption); (case k2 => assumption); (case k4 => exact rfl); intro h' x' U'; (try dsimp only [InitBack])))
local macro_rules | `(tactic| walk_at "call builtin:hasattr") => `(tactic| (k_here; (rename Fr _ _ _ _ => kF9); (rename News _ _ _ _ => kN9); refine hasattr_missH (K := hd.heap_39 _) (by k_in) (by k_dflt k_is) (by decide +kernel) (by k_dflt k_is) (by k_dflt k_is) (by decide +kernel) (by decide +kernel) (by k_dflt k_is) ⟨_, _, _, rfl, kN9.get (by k_mem), by assumption, by assumption⟩ ?_; intro h9 tk9 e9 x9; (have F9 := (x9.frame kF9 kN9).1); (have N9 := (x9.frame kF9 kN9).2); clear x9; (try k_sweep)))
set_option maxHeartbeats 40000000 in
theorem goes : PySem.Challenge.rw_fh5025_01.Holds := by
  refine hd ?_
  k_go0
  (all_goals try k_fold)
  k_steps
  (rename Fr _ _ _ _ => lF)
  (rename News _ _ _ _ => lN)
  (rename RowsAt _ _ _ => rA)
  (rename IntsAre _ (List.take 12 _) => iA)
  (rename (∀ (q : Addr × Obj), q ∈ _ → _ < q.1) ∧ _ => of9)
  have of1 := fun p hp => Ne.symm (Nat.ne_of_lt (of9.1 p hp))
  (rename _ < _ ∧ _ => l1)
  (rename _ = Data.cell (some (Value.ref _)) => hRows)
  refine loop_cell rfl (List.Mem.head _) (List.forall_mem_cons.mpr ⟨Ne.symm (Nat.ne_of_lt l1.1), of1⟩) lF (news_sub lN (fun p hp => by simp only [List.mem_cons] at hp ⊢; rcases hp with q | q | q | q; exact .inr (.inr (.inl q)); exact .inr (.inl q); exact .inl q; exact .inr (.inr (.inr q)))) (by assumption) ?_ ?_
  · clear lF lN
    intro v m₁ h9 tk9 own o₂ v₂ hv h₂ hne F9 N9
    obtain ⟨n, t, rfl⟩ := ints_mem iA hv
    have R9 := rA.at N9
    have lm9 := R9.list
    clear hv iA rA of9 of1 l1
    generalize own ++ _ = rest at hne N9 R9 lm9 ⊢
    iterate 49 (first | walk1 | (dsimp only; walk1))
    (with_reducible rename Fr _ _ _ _ => F8)
    (with_reducible rename RowsAt _ _ _ => R8)
    (with_reducible rename List Addr => ls8)
    with_reducible refine' comp_refs (pz := pick ls8 ((((n.fmod 16777216).fdiv 169).fmod 16).toNat)) (g := clsOf ls8) F8 ?hsw ?hL ?hh ?hclos ?hcell ?hkind ?hnames ?hx ?hy ?hp ?h ?hs
    (case hsw => with_unfolding_all rfl)
    (case hL => with_unfolding_all rfl)
    (case hh => with_unfolding_all rfl)
    (case hclos => with_unfolding_all rfl)
    (case hcell => decide)
    (case hkind => with_unfolding_all rfl)
    (case hnames => decide)
    (case hx => with_unfolding_all rfl)
    (case hy => with_unfolding_all rfl)
    (case hp => with_unfolding_all rfl)
    (case hs => intro _; with_unfolding_all rfl)
    iterate 18 (first | walk1 | (dsimp only; walk1))
    (with_reducible rename RowsAt _ _ _ => R9)
    have len8 : (List.drop (((n.fmod 16777216).fdiv 13).fmod 13).toNat (ls8.map Value.ref) ++ List.take (((n.fmod 16777216).fdiv 13).fmod 13).toNat (ls8.map Value.ref)).length ≤ sizeLine := by
      rw [List.length_append, List.length_drop, List.length_take, List.length_map, R9.len, sizeLine_eq]; omega
    (with_reducible rename News _ _ _ _ => N8)
    refine' ⟨_, _, _, rfl, ?il, len8, ?F9, ?N9, ?tests, ?elts, ?done⟩
    (case F9 => k_asm)
    (case N9 => exact N8)
    (case il => with_unfolding_all exact News.isList N8 (List.Mem.head _))
    case tests =>
      intro C v s₂ m₂ E' hv hn hm F2 N2
      obtain ⟨i, hi, rfl⟩ := R9.memIs hv
      rw [R9.pickIs hi]
      k_steps
      all_goals first
        | exact ⟨_, _, rfl, fun _ _ h => h⟩
        | (unfold keeps; rw [decide_eq_true (by omega)]; rfl)
        | (unfold keeps; rw [decide_eq_false (by omega), Bool.false_or]; symm; assumption)
    case elts =>
      intro C v s₂ m₂ E' hv hp hn hm F2 N2
      obtain ⟨i, hi, rfl⟩ := R9.memIs hv
      rw [R9.clsIs hi]
      k_steps
      all_goals first
        | exact ⟨_, _, rfl, fun _ _ h => h⟩
        | exact ⟨rfl, _, _, rfl, fun _ _ h => h⟩
    case done =>
      intro D h2 tk2 nn F2 N2 l2
      dsimp only
      rw [R9.known] at N2
      replace N2 := news_d7 N2
      clear l2 len8
      have hr := fmN (n.fmod 16777216)
      have ht := fmN ((n.fmod 16777216).fdiv 13)
      have bd := fm ((n.fmod 16777216).fdiv 169) (k := 16) (by decide)
      have bs := fm ((n.fmod 16777216).fdiv 2704) (k := 249) (by decide)
      have hd : (((n.fmod 16777216).fdiv 169).fmod 16).toNat < 16 := by omega
      (rename World => w9)
      obtain ⟨c1, c2, c3, c4⟩ := clsR w9 hr
      by_cases h12 : 12 < ((n.fmod 16777216).fdiv 169).fmod 16
      · have hk : (if 12 < (((n.fmod 16777216).fdiv 169).fmod 16).toNat then 13 else 12) = 13 := if_pos (by omega)
        have hkeep : keeps (((n.fmod 16777216).fdiv 169).fmod 16).toNat ((n.fmod 16777216).fmod 13).toNat = decide (12 < ((n.fmod 16777216).fdiv 169).fmod 16) := by
          unfold keeps; rw [decide_eq_true (by omega), decide_eq_true h12]; rfl
        k_steps
        all_goals first
          | ((with_reducible rename News _ _ _ _ => N8); (with_reducible rename Fr _ _ _ _ => F8); (refine' turn_end F8 N8 ?c rfl); (case c => assumption))
          | (exfalso; (rename (mayB _ _ _ != mayB _ _ _) = true => q); (rw [bne_self_eq_false] at q); cases q)
      · have hk : (if 12 < (((n.fmod 16777216).fdiv 169).fmod 16).toNat then 13 else 12) = 12 := if_neg (by omega)
        have hkeep0 : keeps (((n.fmod 16777216).fdiv 169).fmod 16).toNat ((n.fmod 16777216).fmod 13).toNat = (((n.fmod 16777216).fmod 13).toNat != (((n.fmod 16777216).fdiv 169).fmod 16).toNat) := by
          unfold keeps; rw [decide_eq_false (by omega)]; rfl
        cases hb : (((n.fmod 16777216).fmod 13).toNat != (((n.fmod 16777216).fdiv 169).fmod 16).toNat)
        · rw [hb] at hkeep0
          k_steps
          all_goals first
          | ((with_reducible rename News _ _ _ _ => N8); (with_reducible rename Fr _ _ _ _ => F8); (refine' turn_end F8 N8 ?c rfl); (case c => assumption))
          | (exfalso; (rename (mayB _ _ _ != mayB _ _ _) = true => q); (rw [bne_self_eq_false] at q); cases q)
        · rw [hb] at hkeep0
          k_steps
          all_goals first
          | ((with_reducible rename News _ _ _ _ => N8); (with_reducible rename Fr _ _ _ _ => F8); (refine' turn_end F8 N8 ?c rfl); (case c => assumption))
          | (exfalso; (rename (mayB _ _ _ != mayB _ _ _) = true => q); (rw [bne_self_eq_false] at q); cases q)
  · intro m₁ h9 tk9 o₂ v₂ h₂ F9 N9
    dsimp only
    have R9 := rA.at2 N9
    clear rA of9 of1 l1 lF lN
    walk1
    (with_reducible rename List Addr => ls8)
    with_reducible refine' comp_refs (pz := fun _ => true) (g := clsOf ls8) F9 ?hsw ?hL ?hh ?hclos ?hcell ?hkind ?hnames ?hx ?hy ?hp ?h ?hs
    (case hsw => with_unfolding_all rfl)
    (case hL => with_unfolding_all rfl)
    (case hh => with_unfolding_all rfl)
    (case hclos => with_unfolding_all rfl)
    (case hcell => decide)
    (case hkind => with_unfolding_all rfl)
    (case hnames => decide)
    (case hx => with_unfolding_all rfl)
    (case hy => with_unfolding_all rfl)
    (case hp => with_unfolding_all rfl)
    (case hs => intro _; with_unfolding_all rfl)
    walk1
    refine' ⟨_, _, ls8.map Value.ref, rfl, ?il, ?len, F9, N9, ?tests, ?elts, ?done⟩
    (case len => rw [List.length_map, R9.len, sizeLine_eq]; omega)
    (case il => exact News.isList N9 (List.mem_cons_of_mem _ (List.mem_cons_of_mem _ R9.list)))
    (case tests => (intro C v s₂ m₂ E' hv hn hm F2 N2; k_steps; all_goals first | exact ⟨s₂.heap, s₂.toks, rfl, fun _ _ h => h⟩))
    (case elts => (intro C v s₂ m₂ E' hv hp hn hm F2 N2; obtain ⟨i, hi, rfl⟩ := R9.memAll hv; rw [R9.clsIs hi]; k_steps; all_goals first | exact ⟨rfl, _, _, rfl, fun _ _ h => h⟩ | exact ⟨_, _, rfl, fun _ _ h => h⟩))
    case done =>
      intro D h2 tk2 nn F2 N2 l2
      dsimp only
      rw [R9.every] at N2
      clear l2 F9 N9
      walk1
      walk1
      walk1
      (with_reducible rename News _ _ _ _ => N8)
      (with_reducible rename Fr _ _ _ _ => F8)
      refine loop_list (fun _ m => m (Str.ofString "everything") = some (.ref D)) rfl (List.mem_cons_of_mem _ (List.mem_cons_of_mem _ (List.mem_cons_of_mem _ R9.list))) F8 N8 rfl ?_ ?_
      · clear N8 F8
        intro i v m₂ h3 tk3 own hv hJ F3 N3
        have hi : i < 13 := by
          obtain ⟨q, _⟩ := List.getElem?_eq_some_iff.mp hv
          rw [List.length_map, R9.len] at q
          exact q
        rw [R9.get hi] at hv
        cases hv
        replace F3 := Mine.Fr.know F3 hJ
        (rename World => w9)
        obtain ⟨c1, c2, c3, c4⟩ := clsR w9 hi
        k_steps
        (with_reducible rename News _ _ _ _ => N8)
        (with_reducible rename Fr _ _ _ _ => F8)
        refine tuple_c (fun _ => True) rfl (tupK (K := hd.heap_39 _) (by k_in) (by k_dflt k_is)) F8 N8 trivial ?_ ?_
        · clear N8 F8
          intro j v2 h4 tk4 own4 hv2 _ F4 N4
          obtain ⟨cd, ct, rfl⟩ : ∃ n t, v2 = .int n t := ints_mem (ns := [34, 36, 51, 112, 126, 127, 128, 146, 254, 255, 0, 1]) (vs := [_, _, _, _, _, _, _, _, _, _, _, _]) (by repeat constructor) (List.mem_toArray.mp (Array.mem_of_getElem? hv2))
          k_steps
          all_goals first
            | (exfalso; (rename (mayB _ _ _ != mayB _ _ _) = true => q); (rw [bne_self_eq_false] at q); cases q)
            | ((with_reducible rename News _ _ _ _ => N8); (with_reducible rename Fr _ _ _ _ => F8); exact turnc_end F8 (news_tail N8) rfl)
        · clear N8 F8
          intro u4 h4 tk4 _ F4 N4
          dsimp only
          obtain ⟨y0, y1, y2, y3, y4, y5, y6, y7, y8, y9, y10, z1, z2, z3, z4, z5, z6, z7⟩ := (clsOk w9 _ (svc_mem hi)).2.1
          k_steps
          all_goals first
            | exact envOf (Str.ofString "") ⟨.function, [], false, false, []⟩ 0 0 .none
            | (exfalso; (rename (mayB _ _ _ != _) = true => q); (rw [may_126 hi, bne_self_eq_false] at q); cases q)
            | ((with_reducible rename News _ _ _ _ => N8); (with_reducible rename Fr _ _ _ _ => F8); exact turned_end F8 (news_tail (news_tail (news_tail N8))) rfl rfl)
      · clear F8 N8
        intro m₁ h tk hJ F N
        dsimp only
        iterate 38 (first | walk1 | (dsimp only; walk1))
        k_steps
        refine' catchL (K := hd.heap_39 _) ?hfr ?x ?u ?F ?X ?T ?hx ?hk ?hkn ?catchK
        (case hfr => exact rfl)
        (case x => assumption)
        (case u => assumption)
        (case F => assumption)
        (case X => k_asm)
        (case T => k_asm)
        (case hx => k_is)
        (case hk => exact rfl)
        (case hkn => exact rfl)
        case catchK =>
          intro h' oe ws F9 hd9 h29 N9; (rename Frag.In _ _ => kX1); (rename Top _ _ _ _ _ _ => kT1); (rename Below _ _ _ _ => kB1); clear kX1 kT1 kB1
          k_steps
end
end Mine

set_option maxRecDepth 100000 in
theorem PySem.Challenge.cw_fh5025_01_holds : PySem.Challenge.rw_fh5025_01.Holds :=
  Mine.goes
#print axioms PySem.Challenge.cw_fh5025_01_holds
