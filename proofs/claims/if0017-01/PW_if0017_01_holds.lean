import PyProof.Rows.All
import Wide.All
import OpenK.AllK
import Wide.FinOn
import Lean
import PySem.Challenge.RW_if0017_01
namespace Mine
open Lean Meta
set_option genSizeOf false
set_option genInjectivity false
structure SqV where
  e : Expr
  a : Nat
  b : Nat
abbrev SqR := IO.Ref (Std.HashMap Expr SqV)
structure SqS where
  num : IO.Ref Nat
  stamp : IO.Ref Nat
  ord : IO.Ref (List Expr)
  lctx : IO.Ref LocalContext
  body : SqR
  seen : SqR
  lvl : SqR
  lets : SqR
  memo : SqR
def sqGet (r : SqR) (k : Expr) : BaseIO (Option SqV) := return (← r.get).get? k
def sqPut (r : SqR) (k : Expr) (v : SqV) : BaseIO Unit := r.modify fun m => m.insert k v
def sqNew (S : SqS) : BaseIO Nat := S.num.modifyGet fun n => (n, n + 1)
def sqX (n : Nat) : Expr := .fvar ⟨.num `sq n⟩
/-- a binder's body opened; its number -/
def sqOpen (S : SqS) (e d b : Expr) : BaseIO SqV := do
  match ← sqGet S.body e with
  | some v => return v
  | none =>
    let n ← sqNew S
    S.lctx.modify fun l => l.mkLocalDecl ⟨.num `sq n⟩ `x d .default .default
    let v := ⟨b.instantiate1 (sqX n), n, 0⟩
    sqPut S.body e v
    return v
def sqDom (e : Expr) : Expr := if e.isLet then e.letType! else e.bindingDomain!
def sqBody (e : Expr) : Expr := if e.isLet then e.letBody! else e.bindingBody!
def sqBin (e : Expr) : Bool := e.isBinding || e.isLet
def sqVisit (fuel : Nat) (S : SqS) (sp : Bool) (e : Expr) (scope : Nat) : BaseIO Unit :=
  match fuel with
  | 0 => return
  | fuel + 1 => do
    if sp && e.isApp then
      sqVisit fuel S true e.appFn! scope
      sqVisit fuel S false e.appArg! scope
    else if !(e.isAtomic || (!e.hasFVar && scope != 0)) then
      match ← sqGet S.seen e with
      | some v => if v.a != scope then sqPut S.seen e ⟨e, scope, v.b + 1⟩
      | none =>
        if sqBin e then
          sqVisit fuel S false (sqDom e) scope
          if e.isLet then sqVisit fuel S false e.letValue! scope
          let v ← sqOpen S e (sqDom e) (sqBody e)
          sqVisit fuel S false v.e v.a
        else if e.isApp then sqVisit fuel S true e scope
        else if e.isMData then sqVisit fuel S false e.mdataExpr! scope
        else if e.isProj then sqVisit fuel S false e.projExpr! scope
        sqPut S.seen e ⟨e, scope, 1⟩
        S.ord.modify (e :: ·)
def sqPick (S : SqS) : MetaM Unit := do
  for e in ← S.ord.get do
    if let some v ← sqGet S.seen e then
      if v.b ≥ 2 && (v.b - 1) * (if e.isApp then e.getAppNumArgs else if e.isLambda then 4 else 0) ≥ 4 then
        try
          let ty ← instantiateMVars (← inferType e)
          if !ty.hasFVar && !ty.hasLooseBVars && !ty.hasMVar && !(← inferType ty).isProp then
            let x := sqX ((collectFVars {} e).fvarIds.foldl (fun m x => match x.name with | .num p n => if p == `sq then max m n else m | _ => m) 0)
            let old := (← sqGet S.lets x).elim (sqX 0) (·.e)
            sqPut S.lets x ⟨.lam `x ty (.app e old) .default, 0, 0⟩
        catch _ => pure ()
/-- mode 0: e anew; 1: e anew, though it is bound; 2: the bindings ls, and then e; 3: the parts of an app -/
def sqGo (fuel : Nat) (S : SqS) (mode : Nat) (e : Expr) (n : Nat) (ls : Expr) : BaseIO Expr :=
  match fuel with
  | 0 => return e
  | fuel + 1 => do
    if mode == 2 then
      S.stamp.set (← sqNew S)
      if ls.isLambda then
        let c := ls.bindingBody!.appFn!
        let v ← sqGo fuel S 1 c n ls
        sqPut S.lvl c ⟨c, n, 0⟩
        return .letE `x ls.bindingDomain! v (← sqGo fuel S 2 e (n + 1) ls.bindingBody!.appArg!) false
      else sqGo fuel S 0 e n ls
    else if mode == 3 && e.isApp then return .app (← sqGo fuel S 3 e.appFn! n ls) (← sqGo fuel S 0 e.appArg! n ls)
    else if (e.isAtomic && !e.isFVar) || !(e.hasFVar || n == 0) then return e
    else
      match ← (if mode == 1 then pure none else sqGet S.lvl e) with
      | some v => return .bvar (n - 1 - v.a)
      | none =>
        let st ← S.stamp.get
        let key := .app e (mkRawNatLit st)
        match ← sqGet S.memo key with
        | some v => return v.e
        | none =>
          let r ← if sqBin e then do
              let d ← sqGo fuel S 0 (sqDom e) n ls
              let w ← if e.isLet then sqGo fuel S 0 e.letValue! n ls else pure d
              let v ← sqOpen S e (sqDom e) (sqBody e)
              sqPut S.lvl (sqX v.a) ⟨e, n, 0⟩
              let b ← sqGo fuel S 2 v.e (n + 1) ((← sqGet S.lets (sqX v.a)).elim (sqX 0) (·.e))
              S.stamp.set st
              pure (if e.isLet then .letE `x d w b false else if e.isLambda then .lam `x d b .default else .forallE `x d b .default)
            else if e.isApp then sqGo fuel S 3 e n ls
            else if e.isMData then sqGo fuel S 0 e.mdataExpr! n ls
            else match e with
              | .proj a i b => return .proj a i (← sqGo fuel S 0 b n ls)
              | e => pure e
          sqPut S.memo key ⟨r, 0, 0⟩
          return r
/-- no type hints about proofs, conjunctions taken apart by projections -/
def bare (e : Expr) : CoreM Expr := Core.transform e (post := fun x => return .done (
  if x.isAppOfArity ``id 2 && x.getAppFn.constLevels! == [.zero] then x.appArg!
  else if x.isAppOfArity ``And.left 3 then .proj ``And 0 x.appArg!
  else if x.isAppOfArity ``And.right 3 then .proj ``And 1 x.appArg!
  else x))
/-- a term with its repeated parts bound by let where they can first be said -/
def squeeze (e : Expr) : MetaM Expr := do
  let e ← bare e
  let S : SqS := ⟨← IO.mkRef 1, ← IO.mkRef 0, ← IO.mkRef [], ← IO.mkRef (← getLCtx), ← IO.mkRef {}, ← IO.mkRef {}, ← IO.mkRef {}, ← IO.mkRef {}, ← IO.mkRef {}⟩
  sqVisit 1000000 S false e 0
  withLCtx (← S.lctx.get) {} (sqPick S)
  sqGo 1000000 S 2 e 0 ((← sqGet S.lets (sqX 0)).elim (sqX 0) (·.e))
end Mine
namespace Mine
open Lean Meta Elab Tactic
def Tag {P : Prop} (_ : P) : Prop := True
theorem sqz {P : Prop} (p : P) (_ : Tag p) : P := p
/-- the proof of the other goal, squeezed -/
def sq : TacticM Unit := do
  let g ← getMainGoal
  let m := (← g.getDecl).type.appArg!
  let e ← instantiateMVars m
  if e.hasExprMVar then throwError "sq: the proof is not whole"
  m.mvarId!.assign (← g.withContext (squeeze e))
  g.assign (mkConst ``True.intro)
theorem leT (a c v x y i j : Nat) (h : a + x ≤ c + y) (g : c + i ≤ v + j) : a + (x + i) ≤ v + (y + j) := by omega
theorem leE (a b x y p q : Nat) (h : a + x ≤ b + y) (e : Nat.ble (y + p) (q + x) = true) : a + p ≤ b + q := by
  have := Nat.le_of_ble_eq_true e
  omega
theorem leP {α : Type} (xs : Array α) (v : α) : (xs.push v).size ≤ xs.size + 1 := Nat.le_of_eq (Array.size_push v)
theorem leA (a b m n : Nat) (h : a ≤ m) (k : b ≤ n) : a + b ≤ m + n := Nat.add_le_add h k
theorem leM (k b n : Nat) (h : b ≤ n) : k * b ≤ k * n := Nat.mul_le_mul_left k h
theorem cast63 (a : Nat) (h : a ≤ 16777216) : (a : Int) < 2 ^ 63 := by omega
/-- u + i ≤ v + j; with k = 1: ≠ -/
structure Ed where
  k : Nat
  u : Expr
  i : Nat
  v : Expr
  j : Nat
  h : Expr
def edZ : Expr := mkNatLit 0
def isOp (e : Expr) (n : Name) : Bool := e.isAppOf n && e.getAppNumArgs == 6
/-- e = base + k -/
def strip (fuel : Nat) (e : Expr) : Expr × Nat :=
  match fuel, e.nat? with
  | _, some k => (edZ, k)
  | 0, _ => (e, 0)
  | fuel + 1, _ =>
    if isOp e ``HAdd.hAdd then
      let (b, j) := strip fuel e.appArg!
      if b == edZ then
        let (a, i) := strip fuel e.appFn!.appArg!
        (a, i + j)
      else (.app e.appFn! b, j)
    else if isOp e ``HMul.hMul then
      let (b, j) := strip fuel e.appArg!
      (.app e.appFn! b, j * (e.appFn!.appArg!.nat?.getD 0))
    else if e.isAppOf ``List.length && e.appArg!.isAppOf ``Array.toList then (mkApp2 (mkConst ``Array.size [.zero]) e.appFn!.appArg! e.appArg!.appArg!, 0)
    else (e, 0)
def ed (k n : Nat) (a b h : Expr) : Ed :=
  let (u, i) := strip 20 a
  let (v, j) := strip 20 b
  ⟨k, u, i + n, v, j, h⟩
/-- the facts that a proof h of t gives -/
def facts (fuel : Nat) (h t : Expr) (s : List Ed) : List Ed :=
  match fuel with
  | 0 => s
  | fuel + 1 =>
    let f := t.getAppFn
    if f.isConstOf ``And then facts fuel (.proj ``And 1 h) t.appArg! (facts fuel (.proj ``And 0 h) t.appFn!.appArg! s)
    else if f.isConstOf ``PySem.W.AllLt && t.appArg!.isAppOfArity ``List.cons 3 then
      let p := t.appArg!.appFn!.appArg!
      facts fuel (.proj ``And 1 h) (.app t.appFn! t.appArg!.appArg!) (ed 0 1 (if p.isAppOfArity ``Prod.mk 4 then p.appFn!.appArg! else .proj ``Prod 0 p) t.appFn!.appArg! (.proj ``And 0 h) :: s)
    else if t.isApp && t.appFn!.isApp then
      let b := t.appArg!
      let a := t.appFn!.appArg!
      let n := t.getAppArgs[0]!.isConstOf ``Nat
      if f.isConstOf ``Ne then ed 1 0 a b h :: s
      else if !n then s
      else if f.isConstOf ``LT.lt then ed 0 1 a b h :: s
      else if f.isConstOf ``LE.le then ed 0 0 a b h :: s
      else if f.isConstOf ``Eq then ed 0 0 a b (mkApp3 (mkConst ``Nat.le_of_eq) a b h) :: ed 0 0 b a (mkApp3 (mkConst ``Nat.le_of_eq) b a (mkApp4 (mkConst ``Eq.symm [1]) (mkConst ``Nat) a b h)) :: s
      else s
    else s
def tys (hs : List Expr) : MetaM (List (Expr × Expr)) :=
  match hs with
  | [] => return []
  | h :: hs => return (h, ← instantiateMVars (← inferType h)) :: (← tys hs)
def bleT : Expr := mkApp2 (mkConst ``Eq.refl [1]) (mkConst ``Bool) (mkConst ``Bool.true)
def edJoin (e f : Ed) : Ed :=
  if e.i == 0 && e.u == e.v then f
  else if e.i == 1 && e.j == 0 && f.i ≤ 1 && f.j == 0 then ⟨0, e.u, 1, f.v, 0, mkApp5 (mkConst (if f.i == 1 then ``Nat.lt_trans else ``Nat.lt_of_lt_of_le)) e.u e.v f.v e.h f.h⟩
  else ⟨0, e.u, e.i + f.i, f.v, e.j + f.j, mkAppN (mkConst ``leT) #[e.u, e.v, f.v, mkRawNatLit e.i, mkRawNatLit e.j, mkRawNatLit f.i, mkRawNatLit f.j, e.h, f.h]⟩
def edStart (x : Expr) : List Ed := [⟨0, x, 0, x, 0, mkApp (mkConst ``Nat.le_refl) x⟩]
/-- from e: u + p ≤ v + q -/
def edEnd (e : Ed) (p q : Nat) : Expr := if e.i == p && e.j == q then e.h else mkAppN (mkConst ``leE) #[e.u, e.v, mkRawNatLit e.i, mkRawNatLit e.j, mkRawNatLit p, mkRawNatLit q, e.h, bleT]
/-- a number that x does not pass -/
def edTop (r : List Ed → List Ed → List Ed) (x : Expr) : Option (Nat × Expr) :=
  let (u, k) := strip 20 x
  ((r (edStart u) (edStart u)).find? fun g => g.v == edZ && g.i ≤ g.j + k).map fun g => (g.j + k - g.i, edEnd g k (g.j + k - g.i))
/-- what is known of an atom by its form -/
def edOwn (r : List Ed → List Ed → List Ed) (c : Expr) : List Ed :=
  let y := c.appArg!
  let x := c.appFn!.appArg!
  let f := c.getAppFn
  if f.isConstOf ``Array.size then
    if y.isAppOfArity ``Array.push 3 then
      let p := y.appFn!.appArg!
      [⟨0, c, 0, .app c.appFn! p, 1, mkApp3 (mkConst ``leP) x p y.appArg!⟩]
    else []
  else if f.isConstOf ``HSub.hSub then [ed 0 0 c x (mkApp2 (mkConst ``Nat.sub_le) x y)]
  else if f.isConstOf ``HDiv.hDiv then [ed 0 0 c x (mkApp2 (mkConst ``Nat.div_le_self) x y)]
  else if f.isConstOf ``Min.min then [ed 0 0 c x (mkApp2 (mkConst ``Nat.min_le_left) x y), ed 0 0 c y (mkApp2 (mkConst ``Nat.min_le_right) x y)]
  else if f.isConstOf ``HAdd.hAdd then
    match edTop r x, edTop r y with
    | some (m, p), some (n, q) => [⟨0, c, 0, edZ, m + n, mkApp6 (mkConst ``leA) x y (mkRawNatLit m) (mkRawNatLit n) p q⟩]
    | _, _ => []
  else if f.isConstOf ``HMul.hMul then
    match x.nat?, edTop r y with
    | some k, some (n, q) => [⟨0, c, 0, edZ, k * n, mkApp4 (mkConst ``leM) x y (mkRawNatLit n) q⟩]
    | _, _ => []
  else []
def reach (fuel : Nat) (s got new : List Ed) : List Ed :=
  match fuel with
  | 0 => got
  | fuel + 1 =>
    let r := (new.flatMap fun e => ((if e.v.isApp && e.v.appFn!.isApp then edOwn (reach fuel s) e.v else []) ++ s).filterMap fun f => if f.k == 0 && f.u == e.v then some (edJoin e f) else none).foldl
      (fun (r : List Ed × List Ed) c => if r.1.any fun g => g.v == c.v && g.j + c.i ≤ c.j + g.i then r else (c :: r.1, c :: r.2)) (got, [])
    if r.2.isEmpty then got else reach fuel s r.1 r.2
/-- a + n ≤ b -/
def lin (s : List Ed) (n : Nat) (a b : Expr) : Option Expr :=
  let (a, p) := strip 20 a
  let (b, q) := strip 20 b
  let st := if a == edZ then (b :: (s.filter (·.k == 0)).map (·.u)).map (fun x => ⟨0, a, 0, x, 0, mkApp (mkConst ``Nat.zero_le) x⟩) ++ edStart a else edStart a
  ((reach 12 s st st).find? fun g => g.v == b && g.j + p + n ≤ q + g.i).map fun g => edEnd g (p + n) q
/-- t from the facts s -/
def linGo (t : Expr) (s : List Ed) : Option Expr :=
  let f := t.getAppFn
  let b := t.appArg!
  let a := t.appFn!.appArg!
  let x := t.getAppArgs[0]!
  if f.isConstOf ``Ne then
    let e := ed 1 0 a b t
    (s.findSome? fun f =>
      if f.k == 0 then none
      else if f.u == e.u && f.i == e.i && f.v == e.v && f.j == e.j then some f.h
      else if f.u == e.v && f.i == e.j && f.v == e.u && f.j == e.i then some (mkApp4 (mkConst ``Ne.symm [1]) x b a f.h)
      else none).orElse fun _ =>
        if x.isConstOf ``Int then none
        else match lin s 1 a b with
          | some p => some (mkApp3 (mkConst ``Nat.ne_of_lt) a b p)
          | none => (lin s 1 b a).map (mkApp3 (mkConst ``Nat.ne_of_gt) a b)
  else if x.isConstOf ``Int then
    if f.isConstOf ``LE.le && b.isAppOfArity ``Nat.cast 3 && a.int? == some 0 then some (mkApp (mkConst ``Int.natCast_nonneg) b.appArg!)
    else if f.isConstOf ``LT.lt && a.isAppOfArity ``Nat.cast 3 && b.isAppOf ``HPow.hPow then (lin s 0 a.appArg! (mkNatLit 16777216)).map (mkApp2 (mkConst ``cast63) a.appArg!)
    else none
  else if !x.isConstOf ``Nat then none
  else if f.isConstOf ``LT.lt then lin s 1 a b
  else if f.isConstOf ``LE.le then lin s 0 a b
  else if f.isConstOf ``Eq then
    match lin s 0 a b, lin s 0 b a with
    | some p, some q => some (mkApp4 (mkConst ``Nat.le_antisymm) a b p q)
    | _, _ => none
  else none
/-- small facts of order, without omega -/
def linT : TacticM Unit := withMainContext do
  let g ← getMainGoal
  let t ← instantiateMVars (← g.getType)
  let ok := !t.hasExprMVar && [``LT.lt, ``LE.le, ``Ne, ``Eq, ``Not].contains t.getAppFn.constName
  let r ← if ok && t.hasFVar && !t.isAppOf ``Not then
      pure (linGo t ((← tys (← getLocalHyps).toList).foldl (fun s x => facts 100 x.1 x.2 s) []))
    else if ok && !t.hasFVar then do
      let d ← mkDecide t
      match Kernel.isDefEq (← getEnv) (← getLCtx) d (mkConst ``Bool.true) with
      | .ok true => pure (some (mkApp3 (mkConst ``of_decide_eq_true) t d.appArg! bleT))
      | _ => pure none
    else pure none
  match r with
  | some p => g.assign p
  | none => failure
def neT : TacticM Unit := linT
/-- does a fact speak of order or of equality of numbers -/
def isArith (t : Expr) : Bool :=
  match (if t.isAppOf ``Not then t.appArg! else t).getAppFn with
  | .const n _ => [``LT.lt, ``LE.le, ``Eq, ``Ne, ``And, ``Or, ``GT.gt, ``GE.ge, ``Iff].contains n
  | _ => false
def few (fuel : Nat) (t : Expr) (g : MVarId) (src : List Expr) (fs : List (Expr × Expr)) (keep : List Expr) : TacticM Unit := do
  match fuel with
  | 0 => failure
  | fuel + 1 =>
    let (new, rest) := fs.partition fun h => src.any fun e => h.2.hasAnyFVar e.containsFVar
    let keep := new.map (·.1) ++ keep
    let old ← getLCtx
    let g' ← mkFreshExprSyntheticOpaqueMVar t
    try
      if let some g2 ← g'.mvarId!.falseOrByContra then
        g2.withContext do
          Omega.omega (keep ++ (← getLocalHyps).toList.filter fun h => !old.contains h.fvarId!) g2
      g.assign (← instantiateMVars g')
    catch _ => few fuel t g (new.map (·.2) ++ src) rest keep
/-- omega with those facts alone that the goal's letters lead to -/
def fewT : TacticM Unit := withMainContext do
  let g ← getMainGoal
  let t ← instantiateMVars (← g.getType)
  unless isArith t && t.hasFVar && !t.hasExprMVar do failure
  few 3 t g [t] ((← tys (← getLocalHyps).toList).filter fun h => isArith h.2) []
end Mine
namespace Mine
open Lean Meta Elab Tactic
/-- may the pairs be alike -/
def memQuick (x y : Expr) : Bool :=
  if x.isAppOfArity ``Prod.mk 4 && y.isAppOfArity ``Prod.mk 4 then
    let a := x.appFn!.appArg!
    let b := y.appFn!.appArg!
    !(a.isFVar && b.isFVar && a != b)
  else true
def memTry (x y : Expr) : MetaM Bool := do
  if memQuick (← whnfR x) (← whnfR y) then withReducible (isDefEq x y) else return false
def memFact (x l : Expr) (fs : List (Expr × Expr)) : MetaM (Option Expr) := do
  match fs with
  | [] => return none
  | (h, t) :: fs =>
    if t.appFn!.appArg! == l then
      if ← memTry x t.appArg! then return some h
    memFact x l fs
def memGo (fs : List (Expr × Expr)) (x : Expr) (fuel : Nat) (cur : Expr) : MetaM (Option Expr) := do
  match fuel with
  | 0 => return none
  | fuel + 1 =>
    match ← memFact x cur fs with
    | some h => return some h
    | none =>
      let cur ← whnfR cur
      if !cur.isApp || !cur.appFn!.isApp then return none
      let r := cur.appArg!
      let y := cur.appFn!.appArg!
      if cur.isAppOf ``List.cons then
        let α := cur.appFn!.appFn!.appArg!
        if ← memTry x y then return some (mkApp3 (mkConst ``List.Mem.head [.zero]) α y r)
        return (← memGo fs x fuel r).map (mkApp5 (mkConst ``List.Mem.tail [.zero]) α x y r)
      else if cur.isAppOf ``HAppend.hAppend then
        match ← memGo fs x fuel y with
        | some p => mkAppM ``List.mem_append_left #[r, p]
        | none =>
          match ← memGo fs x fuel r with
          | some p => mkAppM ``List.mem_append_right #[y, p]
          | none => return none
      else return none
/-- the place of x among l's cells, when it stands deep -/
def memAt (x : Expr) (fuel i : Nat) (cur : Expr) : MetaM (Option Nat) := do
  match fuel with
  | 0 => return none
  | fuel + 1 =>
    if !cur.isAppOfArity ``List.cons 3 then return none
    else if ← memTry x cur.appFn!.appArg! then return some i
    else memAt x fuel (i + 1) cur.appArg!
/-- x ∈ l, by the list's cells and by the facts about its tails -/
def memT : TacticM Unit := withMainContext do
  let g ← getMainGoal
  let t ← instantiateMVars (← g.getType)
  unless t.isAppOfArity ``Membership.mem 5 do failure
  let l := t.appFn!.appArg!
  let x := t.appArg!
  let fs := (← tys (← getLocalHyps).toList).filter fun h => h.2.isAppOfArity ``Membership.mem 5
  let i ← if fs.any fun h => h.2.appFn!.appArg! == l then pure none else memAt x 300 0 l
  let p ← match i with
    | some (i + 3) =>
      let x ← instantiateMVars x
      let α := l.appFn!.appFn!.appArg!
      pure (some (mkAppN (mkConst ``List.mem_of_getElem? [.zero]) #[α, l, mkRawNatLit (i + 3), x, mkApp2 (mkConst ``Eq.refl [1]) (mkApp (mkConst ``Option [.zero]) α) (mkApp2 (mkConst ``Option.some [.zero]) α x)]))
    | _ => memGo fs x 300 l
  match p with
  | some p => g.assign (← instantiateMVars p)
  | none => failure
def lookLit (e : Expr) : Option String := if e.isAppOf ``PySem.Str.ofString then (match e.appArg! with | .lit (.strVal s) => some s | _ => none) else none
/-- the first arm of the name -/
def lookGo (fuel : Nat) (cur : Expr) : Option Expr :=
  match fuel with
  | 0 => none
  | fuel + 1 =>
    if !cur.isAppOfArity ``ite 5 then none
    else
      let c := cur.getAppArgs[1]!
      match lookLit c.appFn!.appArg!, lookLit c.appArg! with
      | some a, some b => if a == b then some cur.appFn!.appArg! else lookGo fuel cur.appArg!.headBeta
      | _, _ => none
/-- m x = some ?v for a map of written names: the first arm of that name -/
def lookT : TacticM Unit := withMainContext do
  let g ← getMainGoal
  let t ← instantiateMVars (← g.getType)
  match lookGo 200 t.appFn!.appArg!.headBeta with
  | some a =>
    if ← isDefEq t.appArg! a then g.assign (mkApp2 (mkConst ``Eq.refl [1]) t.appFn!.appFn!.appArg! (← instantiateMVars a)) else failure
  | none => failure
end Mine
namespace Mine
open Lean Meta Elab Tactic
/-- a row's names get a macro scope, as a macro's have -/
def hygRow (mod : Name) (i : Nat) (t : Syntax) : TacticM Syntax :=
  t.rewriteBottomUpM fun s => match s with
    | .ident info raw val pre => do
      let cs ← resolveGlobalName val
      return Syntax.ident info raw (addMacroScope mod val (900000 + i)) (pre ++ cs.map fun (c, fs) => Syntax.Preresolved.decl c fs)
    | s => return s
def longKeys : List String := [" Name UnaryOp ref int", " Name Name ref int", " Name Constant ref int", " Name BinOp ref int", " Name Slice ref ref", " Name", " Attribute", " Subscript", " Call", " Attribute Name Constant ref int", " BinOp", " IfExp"]
def useGo (mod : Name) (i : Nat) (rs out : List (String × Syntax)) : TacticM (List (String × Syntax)) := do
  match rs with
  | [] => return out
  | (k, t) :: rs =>
    let t ← hygRow mod i t
    useGo mod (i + 1) rs ((k, t) :: (if k == "subscriptTail" then longKeys.map (fun l => (k ++ l, t)) ++ out else out))
/-- the parked rows of the texts ps, and no others, are now asked, the last first -/
def use (ps : List String) : TacticM Unit := do
  let park := (← PySem.W.kExtra.get).filter fun r => r.1.startsWith "@"
  PySem.W.kExtra.set (← useGo (← getEnv).mainModule 1 (ps.flatMap fun p => ((park.filter fun r => r.1.startsWith ("@" ++ p ++ "@")).reverse.map fun r => ((r.1.drop (p.length + 2)).toString, r.2))) park)
end Mine
namespace Mine
open Lean Meta Elab Tactic
/-- no twins (their equations are long) -/
def noTwins : TacticM Unit := do
  for k in ["heap", "o", "tree", "view", "sts", "thread", "g", "d", "code", "fn"] do
    for i in [0:800] do
      PySem.W.Fast.primed.modify (·.insert (((`Mine).str "hd").str (k ++ "_" ++ toString i)) none)
  for n in [`PySem.Challenge.pw_if0017_01, `PySem.Challenge.rw_if0017_01] do
    PySem.W.Fast.primed.modify (·.insert n none)
end Mine
open PySem PySem.W PySem.Calls PyProof.Rows
set_option Elab.async false
set_option linter.all false
set_option maxRecDepth 100000
set_option maxHeartbeats 0
set_option rowWalk.seconds 0
local macro_rules | `(tactic| omega) => `(tactic| first | (with_reducible assumption) | run_tac Mine.linT | run_tac Mine.fewT)
local macro_rules | `(tactic| walk_at $s:str) => `(tactic| k_extra $s)
local macro_rules | `(tactic| k_ne) => `(tactic| k_extra "k_ne")
local macro_rules | `(tactic| k_in) => `(tactic| k_extra "k_in")
local macro_rules | `(tactic| k_room) => `(tactic| k_extra "k_room")
local macro_rules | `(tactic| k_inst) => `(tactic| k_extra "k_inst")
local macro_rules | `(tactic| k_data) => `(tactic| k_extra "k_data")
local macro_rules | `(tactic| k_mem) => `(tactic| k_extra "k_mem")
local macro_rules | `(tactic| k_all) => `(tactic| k_extra "k_all")
local macro_rules | `(tactic| size_fits) => `(tactic| k_extra "size_fits")
local macro_rules | `(tactic| wp_step) => `(tactic| k_extra "wp_step")
namespace Mine
theorem nt : True := by
  run_tac noTwins
  trivial
local macro_rules | `(tactic| o_head (kmHook $k $a $e $t)) => `(tactic| o_head ((kmHook $k $a $e) (107 :: 114 :: $t)))
open_top hd for PySem.Challenge.rw_if0017_01
end Mine
theorem Mine.row_linesP : True := by
  k_with "@linesP@k_ne" => ((refine neN ?_; (try dsimp only); run_tac Mine.neT))
  k_with "@linesP@wp_step" => ((first | with_reducible (first | refine PySem.wpAny_pure ?_ | refine PySem.wpAny_bind ?_ | refine PySem.wpAny_holding ?_ | refine PySem.wpAny_standAt ?_ | refine PySem.wpAny_point ?_ | refine PySem.wpAny_rule ?_ | refine PySem.wpAny_letGo ?_ | refine PySem.wpAny_mkInt' ?_ | (show PySem.wpAny _ _ (PySem.mkStr _) _ _ _; refine PySem.wpAny_mkStr' ?_) | refine PySem.wpAny_fresh' ?_ | refine PySem.wpAny_alloc' ?_ | refine PySem.wpAny_attempt ?_ | refine PySem.wpAny_throw ?_ | refine PySem.wpAny_of_eq (by assumption) ?_ | refine PySem.wpAny_typeOf (by assumption) ?_ | refine PySem.wpAny_specialOf_val (by assumption) (by assumption) ?_ | refine PySem.wpAny_specialOf (by assumption) (by assumption) ?_ | refine PySem.wpAny_isInstance_val (by assumption) (by assumption) ?_ | refine PySem.wpAny_isInstance (by assumption) (by assumption) ?_ | refine PySem.wpAny_call ?_ | refine PySem.wpAny_runValue ?_ | refine PySem.wpAny_run ?_) | ((with_reducible refine PySem.wpAny_load' ?_ ?_); focus (heap_get; done)) | ((with_reducible refine PySem.wpAny_update' ?_ ?_); focus (heap_get; done)) | ((with_reducible refine PySem.wpAny_loadPart' ?_ ?_); focus (heap_get; done)) | ((with_reducible refine PySem.wpAny_updatePart' ?_ ?_); focus (heap_get; done)) | ((with_reducible refine PySem.wpAny_handled_none ?_ ?_); focus (assumption; done)) | ((with_reducible refine PySem.wpAny_ite_false ?_ ?_); focus (rfl; done)) | ((with_reducible refine PySem.wpAny_ite_true ?_ ?_); focus (rfl; done)) | ((with_reducible refine PySem.wpAny_ite_false ?_ ?_); focus (simp [*]; done)) | ((with_reducible refine PySem.wpAny_ite_true ?_ ?_); focus (simp [*]; done)) | wp_delta | with_reducible_and_instances refine PySem.wpAny_pure ?_ | with_reducible_and_instances refine PySem.wpAny_bind ?_))
  trivial
theorem Mine.row_linesZZ : True := by
  k_with "@linesZZ@eval Name" => ((k_here; (with_reducible show wpAny _ _ (eval (Expr.Name _ _) (envOf _ _ _ _ _)) _ _ _); k_dflt (refine' ld ?k1 ?k2 ?_ ?k3 ?k4 ?k5; (case k1 => k_asm); (case k2 => run_tac Mine.lookT); (case k3 => kernel_rfl); (case k4 => kernel_rfl); (case k5 => kernel_rfl); k_whole)))
  k_with "@linesZZ@k_mem" => (run_tac Mine.memT)
  k_with "@linesZZ@k_inst" => ((refine' Mine.InstAt.of_newsA ?iN ?ih1 ?ih2 ?ih3; (case iN => k_asm); (case ih1 => run_tac Mine.memT); (case ih2 => run_tac Mine.memT); (case ih3 => exact rfl)))
  k_with "@linesZZ@callWith" => (((try dsimp only); first | ((with_reducible show wpAny _ _ (callWith _ (Value.builtin _) [] (backTo _ (starEach (_ :: _) _)) []) _ _ _); k_dflt (refine PyProof.Rows.callWith_builtin1 ?_)) | ((with_reducible show wpAny _ _ (callWith _ (Value.builtin _) [_] (backTo _ (starEach (_ :: _) _)) []) _ _ _); k_dflt (refine PyProof.Rows.callWith_method1 ?_))))
  trivial
theorem Mine.use_M01 : True := by
  w_top off
  run_tac Mine.use ["linesP", "linesZZ"]
  trivial
namespace Mine
noncomputable abbrev iniD (w : World) (tk : Tok) (v : Value) : Obj := dictOf [⟨PyData.keyHash w.params "_initial_size", .str "_initial_size" tk, v⟩] 1
noncomputable abbrev accO (dx : Addr) (items : Array Value) (n : Nat) : Obj := ⟨.ref 145, some dx, .seq items n, #[]⟩
theorem canon_list_ga : Manifest.canonical "list.__getattribute__" = "object.__getattribute__" := by decide +kernel
section
variable {prog : Program} {w : World} {M : Model} {A : Around} {E : Value → Shared → Prop} {s : Shared} {K : Frag} {h₀ h : Heap} {L x C D : Addr} {m : Str → Option Value} {news news' : List (Addr × Obj)} {ox : Obj} {od : Option Obj} {name : Str}
theorem InstAt.of_newsA {dx : Addr} {o : Obj} {dt : Data} {sl : Array (Option Value)} (N : News h₀ L h news) (h1 : (x, (⟨.ref C, some dx, dt, sl⟩ : Obj)) ∈ news) (h2 : (dx, o) ∈ news) (h3 : notCls ⟨.ref C, some dx, dt, sl⟩ = true) :
    InstAt h x ⟨.ref C, some dx, dt, sl⟩ C (some o) := ⟨(N _ h1).1, rfl, h3, (N _ h2).1⟩
theorem acc_method {id ga : String} {pl : Sem Bool} {Q : Value × List Value → Shared → Prop} (X : K.In s.heap) (I : InstAt s.heap x ox C od) (hga : findIn K (.ref C) "__getattribute__" = some (some (.builtin ga))) (hcan : Manifest.canonical ga = "object.__getattribute__")
    (hk : findIn K (.ref C) "__getattr__" = some none) (hf : findIn K (.ref C) name = some (some (.builtin id))) (ht : typeOf (.builtin id) = pure (.type "method_descriptor")) (hs : shadowIn od name = some false)
    (h : Q (.builtin id, [.ref x]) s) : wpAny (model prog w) A (getMethod (.ref x) name pl) Q E s := by
  refine @Mine.sqz _ ?zmain ?zfin
  case zmain =>
    unfold getMethod specialOf
    refine wpAny_bind (wpAny_bind (I.type.here ((looks_findIn X hga).here ?_)))
    dsimp only
    rw [hcan, if_neg (by decide)]
    refine wpAny_bind (wpAny_bind (I.type.here ((looks_findIn X hk).here ?_)))
    refine wpAny_bind (wpAny_bind (I.type.here ((looks_findIn X hf).here (wpAny_bind (wpAny_of_eq ht ?_)))))
    rw [if_neg (by decide +kernel)]
    refine wpAny_bind (wpAny_loadPart I.at_ ?_)
    have hd := I.dict
    cases e : ox.dict with
    | none => exact wpAny_bind (wpAny_rule (wpAny_pure h))
    | some dx =>
      cases od with
      | none => rw [e] at hd; exact hd.elim
      | some o =>
        rw [e] at hd
        obtain ⟨r, a, b⟩ := Option.map_eq_some_iff.mp hs
        refine wpAny_bind (wpAny_bind (wpAny_loadPart hd ?_))
        rw [nsLook_of a]
        refine wpAny_pure ?_
        rw [b]
        exact wpAny_bind (wpAny_rule (wpAny_pure h))
  case zfin => run_tac Mine.sq
end
end Mine

namespace Mine
section
variable {m : Str → Option Value} {x1 x2 x3 x4 x5 : Str} {v1 v2 v3 v4 v5 : Value}
theorem map1 (h1 : m x1 = some v1) : m = fun y => if y = x1 then some v1 else m y := by
  funext y
  by_cases e : y = x1
  · rw [if_pos e, e]; exact h1
  · rw [if_neg e]
theorem map2 (h1 : m x1 = some v1) (h2 : m x2 = some v2) : m = fun y => if y = x1 then some v1 else if y = x2 then some v2 else m y := by
  funext y
  by_cases e : y = x1
  · rw [if_pos e, e]; exact h1
  · rw [if_neg e]; exact congrFun (map1 h2) y
theorem map3 (h1 : m x1 = some v1) (h2 : m x2 = some v2) (h3 : m x3 = some v3) : m = fun y => if y = x1 then some v1 else if y = x2 then some v2 else if y = x3 then some v3 else m y := by
  funext y
  by_cases e : y = x1
  · rw [if_pos e, e]; exact h1
  · rw [if_neg e]; exact congrFun (map2 h2 h3) y
theorem map4 (h1 : m x1 = some v1) (h2 : m x2 = some v2) (h3 : m x3 = some v3) (h4 : m x4 = some v4) : m = fun y => if y = x1 then some v1 else if y = x2 then some v2 else if y = x3 then some v3 else if y = x4 then some v4 else m y := by
  funext y
  by_cases e : y = x1
  · rw [if_pos e, e]; exact h1
  · rw [if_neg e]; exact congrFun (map3 h2 h3 h4) y
theorem map5 (h1 : m x1 = some v1) (h2 : m x2 = some v2) (h3 : m x3 = some v3) (h4 : m x4 = some v4) (h5 : m x5 = some v5) : m = fun y => if y = x1 then some v1 else if y = x2 then some v2 else if y = x3 then some v3 else if y = x4 then some v4 else if y = x5 then some v5 else m y := by
  funext y
  by_cases e : y = x1
  · rw [if_pos e, e]; exact h1
  · rw [if_neg e]; exact congrFun (map4 h2 h3 h4 h5) y
end
end Mine

theorem Mine.use_M02 : True := by
  w_top off
  run_tac Mine.use ["linesP", "linesZZ"]
  trivial
namespace Mine
section
variable {prog : Program} {w : World} {M : Model} {A : Around} {E : Value → Shared → Prop} {s : Shared} {K : Frag} {h₀ h : Heap} {L x C D : Addr} {m : Str → Option Value} {news news' : List (Addr × Obj)} {ox : Obj} {od : Option Obj} {name : Str}
theorem acc_check {id owner n : String} {rest : List Value} {kw : List (Str × Value)} {Q : Unit → Shared → Prop} (hsplit : splitId id = some (owner, n)) (hkind : builtinKind id = some .slot ∨ builtinKind id = some .method)
    (X : K.In s.heap) (I : InstAt s.heap x ox C od) (hm : mroIn K C (.type owner) = some true) (ha : argsOk id ⟨.ref x :: rest, kw⟩) (hQ : Q () s) :
    wpAny M A (checkBuiltinCall id ⟨.ref x :: rest, kw⟩) Q E s := by
  refine @Mine.sqz _ ?zmain ?zfin
  case zmain =>
    rcases hkind with hk | hk <;>
    · simp only [checkBuiltinCall, hk, hsplit]
      unfold isInstance
      refine wpAny_bind (wpAny_bind (I.type.here ((looks_mroIn X hm).here ?_)))
      simp only [Bool.not_true, Bool.false_eq_true, if_false]
      cases hsig : Manifest.signature? id with
      | none => exact wpAny_pure hQ
      | some sig =>
        simp only [argsOk, hsig] at ha
        have h2 : Bind.checkArgs id sig ⟨.ref x :: rest, kw⟩ = pure () := ha
        show wpAny M A (Bind.checkArgs id sig ⟨.ref x :: rest, kw⟩) Q E s
        rw [h2]; exact wpAny_pure hQ
  case zfin => run_tac Mine.sq
theorem acc_call {id owner n : String} {b : Builtin} {rest : List Value} {Q : Value → Shared → Prop} (hsplit : splitId id = some (owner, n)) (hkind : builtinKind id = some .slot ∨ builtinKind id = some .method) (hp : plainId id = true)
    (hb : entryFor table id = some b) (X : K.In s.heap) (I : InstAt s.heap x ox C od) (hm : mroIn K C (.type owner) = some true) (ha : argsOk id ⟨.ref x :: rest, []⟩)
    (hc : wpAny (model prog w) A.in1 (b ⟨.ref x :: rest, []⟩) (fun fin s' => ∃ v, fin = .done (.ret v) ∧ Q v s') E s) :
    wpAny (model prog w) A (call (.builtin id) (.ref x :: rest)) Q E s := by
  refine wpAny_call (codeAny_call_builtin hp hb (acc_check hsplit hkind X I hm ha (wpAny_mono hc (fun fin s' h' => ?_) fun _ _ h' => h')))
  obtain ⟨v, rfl, hv⟩ := h'; exact hv
/-- a change of one object of the ledger -/
theorem upd_at {o o' : Obj} {f : Obj → Obj} (F : Fr h₀ L h m) (N : News h₀ L h news) (U : Upd D o o' news news') (hf : f o = o') (hn : o'.isFreed = false) :
    Fr h₀ L (h.update D f) m ∧ News h₀ L (h.update D f) news' ∧ h.get? D = some o := by
  refine @Mine.sqz _ ?zmain ?zfin
  case zmain =>
    obtain ⟨pre, post, rfl, rfl, a, b⟩ := U.split
    have z := N (D, o) (List.mem_append.mpr (.inr (.head _)))
    have hs : Heap.SameBut D h (h.update D f) := Heap.SameBut.update ..
    have ho : (h.update D f).get? D = some o' := by rw [Heap.get?_update_self _ z.1 (by rw [hf]; exact hn), hf]
    exact ⟨F.change hs z.2.1 z.2.2, news_set N a b hs ho, z.1⟩
  case zfin => run_tac Mine.sq
theorem mapSeq_acc {c : Value} {d : Option Addr} {its its' : Array Value} {n : Nat} {sl : Array (Option Value)} {f : Array Value → Array Value} (e : f its = its') :
    Obj.mapSeq f ⟨c, d, .seq its n, sl⟩ = ⟨c, d, .seq its' (if its'.size == its.size then n else n + 1), sl⟩ := by
  subst e; rfl
theorem acc_append {dx : Addr} {its : Array Value} {n : Nat} {v : Value} {o : Obj} {Q : Value → Shared → Prop} (F : Fr h₀ L s.heap m) (X₀ : K.In h₀) (N : News h₀ L s.heap news) (hx : (dx, o) ∈ news)
    (hm : mroIn K C (.type "list") = some true) (U : Upd D ⟨.ref C, some dx, .seq its n, #[]⟩ ⟨.ref C, some dx, .seq (its.push v) (n + 1), #[]⟩ news news')
    (h : ∀ h', Fr h₀ L h' m → News h₀ L h' news' → Q .none { s with heap := h' }) (hsz : its.size ≤ sizeLine) : wpAny (model prog w) A (call (.builtin "list.append") [.ref D, v]) Q E s := by
  refine @Mine.sqz _ ?zmain ?zfin
  case zmain =>
    obtain ⟨F', N', ho⟩ := upd_at (f := Obj.mapSeq (·.push v)) F N U (by rw [mapSeq_acc rfl]; simp) rfl
    have I : InstAt s.heap D ⟨.ref C, some dx, .seq its n, #[]⟩ C (some o) := ⟨ho, rfl, rfl, (N _ hx).1⟩
    refine acc_call (owner := "list") (n := "append") (by decide +kernel) (by decide +kernel) (by decide +kernel) entry_list_append (X₀.keeps F.keep) I hm (args_list_append _ _) ?_
    show wpAny _ _ (updateSeq D (·.push v) >>= fun _ => ret .none) _ _ s
    refine wpAny_bind ?_
    refine wpAny_updateSeq ho rfl (wpAny_pure ⟨.none, rfl, h _ F' N'⟩)
  case zfin => run_tac Mine.sq
end
end Mine

theorem Mine.use_M03 : True := by
  w_top off
  run_tac Mine.use ["linesP", "linesZZ"]
  trivial
namespace Mine
noncomputable abbrev iterO (l : Addr) (i : Nat) : Obj := { cls := .type "list_iterator", data := .fields #[.ref l, .int i 0] }
noncomputable abbrev St (s : Shared) (h : Heap) (g : Array GenState) (tk : Nat) : Shared := { s with heap := h, gens := g, toks := tk }
section
variable {prog : Program} {w : World} {A : Around} {E : Value → Shared → Prop} {s : Shared} {h₀ : Heap} {env : Env} {L : Addr} {target : Expr} {body : List Stmt} {Q : Flow → Shared → Prop}
theorem next_item {it l : Addr} {i : Nat} {items : Array Value} {x : Value} {Q : Option Value → Shared → Prop} (hit : s.heap.get? it = some (iterO l i)) (hl : s.heap.IsList l items) (hx : items[i]? = some x)
    (hQ : ∀ h', h'.get? it = some (iterO l (i + 1)) → Heap.SameBut it s.heap h' → Q (some x) { s with heap := h' }) : wpAny (model prog w) A (pyNext (.ref it)) Q E s := by
  refine @Mine.sqz _ ?zmain ?zfin
  case zmain =>
    have hT : s.heap.IsListIter it l i := ⟨_, hit, rfl, rfl⟩
    obtain ⟨ol, hol, _, nl, hdl⟩ := hl
    unfold pyNext
    refine wpAny_bind (wpAny_attempt (wpAny_callSpecial?_slot (name := Str.ofString "__next__") hT.typeIs slot_listiter_next (wpAny_call_entry slot_listiter_next hT.typeIs entry_listiter_next ?_ (args_listiter_next _))))
    show wpAny _ _ (field (.ref it) 0 >>= _) _ _ s
    refine wpAny_bind (wpAny_field hit rfl (x := .ref l) rfl ?_)
    rw [if_neg (show ¬ ((Value.ref l == Value.none) = true) from Bool.false_ne_true)]
    refine wpAny_bind (wpAny_field hit rfl (x := .int i 0) rfl ?_)
    refine wpAny_bind (wpAny_seqItems hol hdl ?_)
    simp only [Int.toNat_natCast, hx]
    exact wpAny_bind (wpAny_setField_rec hit (by simp) fun h' g hs => wpAny_pure ⟨x, rfl, wpAny_pure (hQ h' g hs)⟩)
  case zfin => run_tac Mine.sq
/-- where a turn of a loop may end -/
noncomputable def TurnEnd (h₀ : Heap) (L : Addr) (s : Shared) (it : Addr) (io : Obj) (Φ : (Str → Option Value) → List (Addr × Obj) → Array GenState → Prop) (Q : Flow → Shared → Prop) (f : Flow) (s' : Shared) : Prop :=
  match f with
  | .brk => Q .next s'
  | .ret v => Q (.ret v) s'
  | _ => ∃ h' g' tk' m' news', s' = St s h' g' tk' ∧ Fr h₀ L h' m' ∧ News h₀ L h' ((it, io) :: news') ∧ (∀ p ∈ news', p.1 ≠ it) ∧ Φ m' news' g'
theorem TurnEnd.intro {it : Addr} {io : Obj} {Φ : (Str → Option Value) → List (Addr × Obj) → Array GenState → Prop} {h' g' tk' m' news'} (F : Fr h₀ L h' m') (N : News h₀ L h' ((it, io) :: news')) (d : ∀ p ∈ news', p.1 ≠ it) (φ : Φ m' news' g') :
    TurnEnd h₀ L s it io Φ Q .next (St s h' g' tk') := ⟨h', g', tk', m', news', rfl, F, N, d, φ⟩
theorem for_list {l : Addr} {vs : Array Value} {m₀ : Str → Option Value} {news₀ : List (Addr × Obj)} (Φ : Nat → (Str → Option Value) → List (Addr × Obj) → Array GenState → Prop)
    (hh : A.handled = none) (F : Fr h₀ L s.heap m₀) (N : News h₀ L s.heap news₀)
    (hl : ∀ i m news g h, Φ i m news g → Fr h₀ L h m → News h₀ L h news → h.IsList l vs) (start : Φ 0 m₀ news₀ s.gens)
    (turn : ∀ i v m news g h tk it E', vs[i]? = some v → Φ i m news g → Fr h₀ L h m → News h₀ L h ((it, iterO l (i + 1)) :: news) → (∀ p ∈ news, p.1 ≠ it) →
      wpAny (model prog w) A (letOwnedTupleGo target (.ref it) v) (fun _ s₁ => wpAny (model prog w) A (assign target env v) (fun _ s₂ =>
        wpAny (model prog w) A (execs body env) (TurnEnd h₀ L s it (iterO l (i + 1)) (Φ (i + 1)) Q) E' s₂) E' s₁) E' (St s h g tk))
    (done : ∀ m news g h tk, Φ vs.size m news g → Fr h₀ L h m → News h₀ L h news → Q .next (St s h g tk)) :
    wpAny (model prog w) A (pyIter (.ref l)) (fun it s₂ => codeAny (model prog w) A (.forLoop target it body [] env) (fun r s' => match r with | .ok f => Q f s' | .error e => cameBackBy (model prog w) A env E e s') s₂) E s := by
  refine wpAny_pyIter_list (hl 0 _ _ _ _ start F N) ?_
  let I : Nat → Shared → Prop := fun n s' => ∃ i m news g h tk, n = vs.size - i ∧ i ≤ vs.size ∧ s' = St s h g tk ∧ Φ i m news g ∧ Fr h₀ L h m ∧ News h₀ L h ((s.heap.objs.size, iterO l i) :: news) ∧ (∀ p ∈ news, p.1 ≠ s.heap.objs.size)
  refine codeAny_forLoop_any I (fun n s' hI => ?_) vs.size ⟨0, m₀, news₀, s.gens, _, s.toks, rfl, Nat.zero_le _, rfl, start, F.push _, N.push F _, N.apart⟩
  obtain ⟨i, m, news, g, h, tk, rfl, hi, rfl, φ, F', N', d⟩ := hI
  have hit : (St s h g tk).heap.IsListIter s.heap.objs.size l i := ⟨_, (N' _ (.head _)).1, rfl, rfl⟩
  have hL := hl i m news g h φ F' (fun p hp => N' p (.tail _ hp))
  have hz := N' _ (.head _)
  cases e : vs[i]? with
  | none =>
    have hi' : i = vs.size := Nat.le_antisymm hi (by have := Array.getElem?_eq_none_iff.mp e; exact this)
    subst hi'
    refine wpAny_pyNext_list_end hh hit hL e fun h' hs => ?_
    have F'' : Fr h₀ L h' m := by
      obtain ⟨o, es, ep, ho, r⟩ := F'.ns
      exact ⟨⟨o, es, ep, hs _ _ (Ne.symm hz.2.1) ho, r⟩, fun b ob eb => hs _ _ (fun q => by rw [← q, eb] at hz; exact absurd hz.2.2 (by simp)) (F'.keep b ob eb), F'.above⟩
    exact wpAny_pure (done m news g h' tk φ F'' fun p hp => ⟨hs _ _ (d p hp) (N' p (.tail _ hp)).1, (N' p (.tail _ hp)).2⟩)
  | some v =>
    refine next_item (N' _ (.head _)).1 hL e fun h' hit' hs => ?_
    have hi' : i < vs.size := by
      have := (Array.getElem?_eq_some_iff.mp e).1; exact this
    have N'' : News h₀ L h' ((s.heap.objs.size, iterO l (i + 1)) :: news) := N'.setHead d hs hit'
    refine wpAny_mono (turn i v m news g h' tk _ _ e φ (F'.change hs hz.2.1 hz.2.2) N'' d) (fun _ s₁ h₁ => wpAny_mono h₁ (fun _ s₂ h₂ => wpAny_mono h₂ (fun f s₃ h₃ => ?_) fun _ _ x => x) fun _ _ x => x) fun _ _ x => x
    have fin : (∃ h' g' tk' m' news', s₃ = St s h' g' tk' ∧ Fr h₀ L h' m' ∧ News h₀ L h' ((s.heap.objs.size, iterO l (i + 1)) :: news') ∧ (∀ p ∈ news', p.1 ≠ s.heap.objs.size) ∧ Φ (i + 1) m' news' g') → ∃ k, k < vs.size - i ∧ I k s₃ := by
      rintro ⟨h'', g', tk', m', news', rfl, a1, a2, a3, a4⟩
      exact ⟨vs.size - (i + 1), by omega, i + 1, m', news', g', h'', tk', rfl, hi', rfl, a4, a1, a2, a3⟩
    cases f with
    | brk => exact h₃
    | ret v => exact h₃
    | next => exact fin h₃
    | cont => exact fin h₃
end
end Mine

theorem Mine.use_M04 : True := by
  w_top off
  run_tac Mine.use ["linesP", "linesZZ"]
  trivial
namespace Mine
noncomputable def dbl (x : Str) : Str := ⟨(List.replicate 2 x.cps).foldl (· ++ ·) #[]⟩
noncomputable def signs : List Str := ["&", "a", "<", ">", "\"", "c", "\t", "d", "\n", "e", "\u000d"]
noncomputable def markF (x : Str) : Str := if x = "&" then "&amp;" else if x = "<" then "&lt;" else if x = "\"" then "&quot;" else if x = "\t" then "&#x9;" else if x = "\n" then "&#xA;" else if x = "\u000d" then "&#xD;" else x
theorem sl1 : (Str.ofString "<a k=\"").length = 6 := by decide +kernel
theorem sl2 : (Str.ofString "\">").length = 2 := by decide +kernel
theorem sl3 : (Str.ofString "</a>").length = 4 := by decide +kernel
theorem sl4 : (Str.ofString "</r>").length = 4 := by decide +kernel
theorem sl5 : (Str.ofString "<r>").length = 3 := by decide +kernel
theorem signs_short : ∀ x ∈ signs, x.length = 1 := by decide +kernel
theorem markF_short : ∀ x ∈ signs, 1 ≤ (markF x).length ∧ (markF x).length ≤ 6 := by decide +kernel
theorem dbl_len (x : Str) : (dbl x).length = 2 * x.length := by
  unfold dbl Str.length
  simp [List.replicate]; omega
section
variable {prog : Program} {w : World} {A : Around} {E : Value → Shared → Prop} {s : Shared}
theorem mul2_str {x : Str} {t u : Tok} {Q : Value → Shared → Prop} (h1 : 1 ≤ x.length) (h2 : x.length ≤ 1000) (h : ∀ tk, Q (.str (dbl x) tk) { s with toks := s.toks + 1 }) :
    wpAny (model prog w) A (binaryOp .Mult (.int 2 u) (.str x t)) Q E s := by
  refine @Mine.sqz _ ?zmain ?zfin
  case zmain =>
    refine lm_binaryOp_repeat_right (T := "str") (U := "int") (by decide) (fun s' => typeIs_int s' 2 u) (typeIs_str s x t) F.fills_int_mul noFill_str_mul F.slot_int_mul lm_noRepeat_int repeat_str F.slot_int_index.lookup
      (call_gives F.slot_int_mul (typeIs_int s 2 u) F.entry_int_mul (F.args_int_mul_2 _ _) (AutoIntG3.int___mul___int_str_0 2 u x t) ⟨rfl, typeIs_str s x t, ?_⟩)
    refine call_gives F.slot_str_mul (typeIs_str s x t) F.entry_str_mul (F.args_str_mul_2 _ _) (gives_str_mul x 2 t u (by decide) (fun _ _ => by omega) (fun _ _ => ?_)) ?_
    · unfold Builtin.Str.tooLong
      simp [sizeLine]; omega
    · rw [if_neg (by decide), if_neg (by simp; intro e; omega)]
      exact ⟨by show (dbl x).length ≤ sizeLine; rw [dbl_len]; simp [sizeLine]; omega, h _⟩
  case zfin => run_tac Mine.sq
end
noncomputable abbrev tupO (vs : List Value) : Obj := { cls := .type "tuple", data := .seq vs.toArray }
noncomputable def blk (b : Bool) : Str := if b then " " else ""
/-- the steps of a path lie in the ledger -/
noncomputable def PathIs (rest : List (Addr × Obj)) (items : Array Value) (ps : List (Bool × Str)) : Prop := items.size = ps.length ∧ ∀ (i : Nat) (p : Bool × Str), ps[i]? = some p → ∃ (t : Addr) (tb ts : Tok), items[i]? = some (Value.ref t) ∧ (t, tupO [.str (blk p.1) tb, .str p.2 ts]) ∈ rest
/-- what told says of a step -/
noncomputable def toldStep (st : Str × Int) (p : Bool × Str) : Str × Int :=
  if p.1 = true then (if 0 ≤ st.2 then (st.1 ++ (("<a k=\"" ++ dbl (markF p.2)) ++ "\">"), st.2 + 1) else (st.1, st.2 + 1))
  else (if 0 < st.2 then (st.1 ++ ("</a>" : Str), st.2 - 1) else (st.1, st.2 - 1))
noncomputable def toldF (ps : List (Bool × Str)) : Str := (ps.foldl toldStep (("<r>" : Str), 0)).1 ++ ("</r>" : Str)
/-- between two turns -/
noncomputable def ToldI (D : Addr) (o : Obj) (rest : List (Addr × Obj)) (g₀ : Array GenState) (ps : List (Bool × Str)) (i : Nat) (m : Str → Option Value) (news : List (Addr × Obj)) (g : Array GenState) : Prop :=
  news = (D, o) :: rest ∧ g = g₀ ∧ m (Str.ofString "marks") = some (.ref D) ∧ (∃ tk, m (Str.ofString "text") = some (.str ((ps.take i).foldl toldStep (("<r>" : Str), 0)).1 tk)) ∧ (∃ tk, m (Str.ofString "height") = some (.int ((ps.take i).foldl toldStep (("<r>" : Str), 0)).2 tk))
noncomputable def MarkGet (kvs : List (Str × Value)) : Prop := ∀ x ∈ signs, ∀ ts : Tok, ∃ tk : Tok, (valueAt kvs x).getD (Value.str x ts) = Value.str (markF x) tk
theorem told_mark {prog : Program} {w : World} {o : Obj} {t1 t2 t3 t4 t5 t6 t7 t8 t9 ta tb tc : Tok} (hd : Obj.IsDictOf (PySem.strKind prog w) o (strPairs [(Value.str "&" t1, Value.str "&amp;" t2), (Value.str "<" t3, Value.str "&lt;" t4), (Value.str "\"" t5, Value.str "&quot;" t6), (Value.str "\t" t7, Value.str "&#x9;" t8), (Value.str "\n" t9, Value.str "&#xA;" ta), (Value.str "\u000d" tb, Value.str "&#xD;" tc)])) :
  ∃ kvs, Obj.IsDictOf (PySem.strKind prog w) o kvs ∧ MarkGet kvs := by
  refine ⟨_, hd, fun x h ts => ?_⟩
  simp only [signs, List.mem_cons, List.not_mem_nil, or_false] at h
  rcases h with rfl | rfl | rfl | rfl | rfl | rfl | rfl | rfl | rfl | rfl | rfl <;> exact ⟨_, rfl⟩
theorem told_get {prog : Program} {w : World} {A : Around} {E : Value → Shared → Prop} {s : Shared} {h₀ : Heap} {L d : Addr} {news : List (Addr × Obj)} {o : Obj} {kvs : List (Str × Value)} {x : Str} {t t' : Tok} {Q : Value → Shared → Prop}
  (N : News h₀ L s.heap news) (hp : (d, o) ∈ news) (hd : Obj.IsDictOf (PySem.strKind prog w) o kvs) (lo : (d == sysModules) = false) (mk : MarkGet kvs) (hx : x ∈ signs) (h : ∀ tk, Q (.str (markF x) tk) { s with toks := s.toks + 1 }) :
  wpAny (model prog w) A (call (.builtin "dict.get") [.ref d, .str x t, .str x t']) Q E s := by
  obtain ⟨tk, e⟩ := mk x hx t'
  refine kdg_get2 (knd := PySem.strKind prog w) N hp hd lo (strKind_is _ _ _ _) _ rfl ?_
  rw [e]; exact h tk
theorem told_len : ∀ (ps : List (Bool × Str)) (st : Str × Int), (∀ q ∈ ps, q.2 ∈ signs) → (ps.foldl toldStep st).1.length ≤ st.1.length + 30 * ps.length
  | [], st, _ => by simp
  | (b, x) :: r, st, h => by
    have ih := told_len r (toldStep st (b, x)) fun q hq => h q (.tail _ hq)
    have hm := markF_short x (h _ (.head _))
    have h1 : (toldStep st (b, x)).1.length ≤ st.1.length + 30 := by
      unfold toldStep
      dsimp only
      (repeat' split) <;> simp only [Str.length_append, dbl_len, sl1, sl2, sl3] <;> omega
    simp only [List.foldl_cons, List.length_cons]
    omega
theorem tsDU {Y x : Str} {H : Int} (h : 0 < H) : toldStep (Y, H) (false, x) = (Y ++ ("</a>" : Str), H - 1) := by simp [toldStep, h]
theorem tsDD {Y x : Str} {H : Int} (h : ¬ 0 < H) : toldStep (Y, H) (false, x) = (Y, H - 1) := by simp [toldStep, h]
theorem tsUU {Y x : Str} {H : Int} (h : 0 ≤ H) : toldStep (Y, H) (true, x) = (Y ++ (("<a k=\"" ++ dbl (markF x)) ++ "\">"), H + 1) := by simp [toldStep, h]
theorem tsUD {Y x : Str} {H : Int} (h : ¬ 0 ≤ H) : toldStep (Y, H) (true, x) = (Y, H + 1) := by simp [toldStep, h]
end Mine

theorem Mine.use_M05 : True := by
  w_top off
  run_tac Mine.use ["linesP", "linesZZ"]
  trivial
namespace Mine
theorem own_len : (".".intercalate ("list.__len__".cutAt '.').dropLast) = "list" := by decide +kernel
theorem own_init : (".".intercalate ("list.__init__".cutAt '.').dropLast) = "list" := by decide +kernel
theorem own_pop : (".".intercalate ("list.pop".cutAt '.').dropLast) = "list" := by decide +kernel
theorem slot_wd_get : Slot "wrapper_descriptor" "__get__" "wrapper_descriptor.__get__" := .of (owner := "wrapper_descriptor") (n := "__get__") (by rw [typeLookup_type, builtinLookup_eq_fast]; kernel_rfl) (by decide +kernel) (by decide +kernel) (by decide +kernel)
  (by first | exact .inl (by decide +kernel) | exact .inr (by decide +kernel)) (by rw [isSubtype_type]; kernel_rfl)
theorem slot_md_get : Slot "method_descriptor" "__get__" "method_descriptor.__get__" := .of (owner := "method_descriptor") (n := "__get__") (by rw [typeLookup_type, builtinLookup_eq_fast]; kernel_rfl) (by decide +kernel) (by decide +kernel) (by decide +kernel)
  (by first | exact .inl (by decide +kernel) | exact .inr (by decide +kernel)) (by rw [isSubtype_type]; kernel_rfl)
theorem entry_wd_get : entryFor table "wrapper_descriptor.__get__" = some Builtin.«wrapper_descriptor.__get__» := entryFor_of_tree (by kernel_rfl)
theorem entry_md_get : entryFor table "method_descriptor.__get__" = some Builtin.«method_descriptor.__get__» := entryFor_of_tree (by kernel_rfl)
theorem args_wd_get (a b c : Value) : argsOk "wrapper_descriptor.__get__" ⟨[a, b, c], []⟩ := by unfold argsOk; kernel_rfl
theorem args_md_get (a b c : Value) : argsOk "method_descriptor.__get__" ⟨[a, b, c], []⟩ := by unfold argsOk; kernel_rfl
theorem ty_len : typeOf (.builtin "list.__len__") = pure (.type "wrapper_descriptor") := by show builtinType _ = _; rw [builtinType_eq_fast]; kernel_rfl
theorem ty_init : typeOf (.builtin "list.__init__") = pure (.type "wrapper_descriptor") := by show builtinType _ = _; rw [builtinType_eq_fast]; kernel_rfl
theorem ty_pop : typeOf (.builtin "list.pop") = pure (.type "method_descriptor") := by show builtinType _ = _; rw [builtinType_eq_fast]; kernel_rfl
noncomputable abbrev boundO (c id : String) (x : Addr) : Obj := { cls := .type c, data := .fields #[.builtin id, .ref x] }
section
variable {prog : Program} {w : World} {M : Model} {A : Around} {E : Value → Shared → Prop} {h : Heap} {g : Array GenState} {d : Drawn} {t : Nat} {os : OsState}
theorem wd_get {id : String} {x C : Addr} {Q : Fin → Shared → Prop} {K : Frag} {ox : Obj} {od : Option Obj} (ho : (".".intercalate (id.cutAt '.').dropLast) = "list") (X : K.In h) (I : InstAt h x ox C od) (hm : mroIn K C (.type "list") = some true)
    (hq : Q (.done (.ret (.ref h.objs.size))) ⟨h.push (boundO "method-wrapper" id x), g, d, t, os⟩) :
    wpAny (model prog w) A (Builtin.«wrapper_descriptor.__get__» ⟨[.builtin id, .ref x, .ref C], []⟩) Q E ⟨h, g, d, t, os⟩ := by
  refine @Mine.sqz _ ?zmain ?zfin
  case zmain =>
    unfold Builtin.«wrapper_descriptor.__get__»
    repeat (first | wp_step | dsimp only)
    rw [ho]
    refine wpAny_loadPart I.at_ ?_
    rw [I.cls]
    refine wpAny_pure (Looks.at (looks_mroIn X hm) ?_)
    rw [if_neg (by decide)]
    refine wpAny_pure ?_
    unfold newFields
    repeat (first | (with_reducible refine wpAny_newObj_type ?_ (by size_fits)) | wp_step)
    exact hq
  case zfin => run_tac Mine.sq
theorem md_get {id : String} {x C : Addr} {Q : Fin → Shared → Prop} {K : Frag} {ox : Obj} {od : Option Obj} (hto : Manifest.toldItsClass.contains id = false) (ho : (".".intercalate (id.cutAt '.').dropLast) = "list") (X : K.In h) (I : InstAt h x ox C od) (hm : mroIn K C (.type "list") = some true)
    (hq : Q (.done (.ret (.ref h.objs.size))) ⟨h.push (boundO "builtin_function_or_method" id x), g, d, t, os⟩) :
    wpAny (model prog w) A (Builtin.«method_descriptor.__get__» ⟨[.builtin id, .ref x, .ref C], []⟩) Q E ⟨h, g, d, t, os⟩ := by
  refine @Mine.sqz _ ?zmain ?zfin
  case zmain =>
    unfold Builtin.«method_descriptor.__get__»
    repeat (first | wp_step | dsimp only)
    rw [hto, if_neg (by decide)]
    repeat (first | wp_step | dsimp only)
    rw [ho]
    refine wpAny_loadPart I.at_ ?_
    rw [I.cls]
    refine wpAny_pure (Looks.at (looks_mroIn X hm) ?_)
    rw [if_neg (by decide)]
    refine wpAny_pure ?_
    unfold newFields
    repeat (first | (with_reducible refine wpAny_newObj_type ?_ (by size_fits)) | wp_step)
    exact hq
  case zfin => run_tac Mine.sq
theorem super_ga {so D x C : Addr} {T id ge c : String} {Bi : Builtin} {l₀ l : List Value} {K : Frag} {name : Str} {tk : Tok} {Q : Fin → Shared → Prop}
    (slot : Slot T "__get__" ge) (ent : entryFor table ge = some Bi) (args : ∀ a b c, argsOk ge ⟨[a, b, c], []⟩) (ty : typeOf (.builtin id) = pure (.type T))
    (get : ∀ A' E' Q', (Q' (.done (.ret (.ref h.objs.size))) ⟨h.push (boundO c id x), g, d, t, os⟩) → wpAny (model prog w) A' (Bi ⟨[.builtin id, .ref x, .ref C], []⟩) Q' E' ⟨h, g, d, t, os⟩)
    (hso : h.get? so = some { cls := .type "super", dict := none, data := .fields #[.ref D, .ref x, .ref C], slots := #[] }) (hno : Looks (model prog w) h (opaqueClassAbove (.ref C)) none)
    (hC : Looks (model prog w) h (mroOf (.ref C)) l₀) (hl : (l₀.dropWhile (· != .ref D)).drop 1 = l) (X : K.In h)
    (hf : alongIn K name l = some (some (.builtin id))) (hxC : x ≠ C) (hn : (name == ("__class__" : Str)) = false)
    (hq : Q (.done (.ret (.ref h.objs.size))) ⟨h.push (boundO c id x), g, d, t, os⟩) :
    wpAny (model prog w) A (Builtin.«super.__getattribute__» ⟨[.ref so, .str name tk], []⟩) Q E ⟨h, g, d, t, os⟩ := by
  refine @Mine.sqz _ ?zmain ?zfin
  case zmain =>
    have hlk := slot.lookup
    have hne : (Value.ref x == Value.ref C) = false := by simp [hxC]
    have hTf : (⟨h, g, d, t, os⟩ : Shared).TypeIs (.builtin id) T := by first | exact ty | exact ⟨_, ty⟩
    have hdt : ({ cls := .type "super", dict := none, data := .fields #[.ref D, .ref x, .ref C], slots := #[] } : Obj).data = .fields #[.ref D, .ref x, .ref C] := rfl
    have f0 : (#[.ref D, .ref x, .ref C] : Array Value)[0]? = some (.ref D) := rfl
    have f1 : (#[.ref D, .ref x, .ref C] : Array Value)[1]? = some (.ref x) := rfl
    have f2 : (#[.ref D, .ref x, .ref C] : Array Value)[2]? = some (.ref C) := rfl
    unfold Builtin.«super.__getattribute__»
    repeat (first
      | (with_reducible refine wpAny_field hso hdt f0 ?_) | (with_reducible refine wpAny_field hso hdt f1 ?_) | (with_reducible refine wpAny_field hso hdt f2 ?_)
      | (with_reducible refine ks_wpAny_notOpaque hno ?_)
      | (with_reducible refine Looks.at hC ?_; rw [hl])
      | (refine ks_forIn_along X (fun _ _ => rfl) rfl ?_ hf)
      | (with_reducible refine wpAny_typeOf hTf ?_)
      | (with_reducible refine wpAny_call_entry slot hTf ent (get _ _ _ ?_) (args _ _ _))
      | (with_reducible refine ⟨_, rfl, ?_⟩)
      | (simp only [hn, hne, Bool.or_false, Bool.false_eq_true, if_false])
      | wp_step
      | dsimp only)
    all_goals exact hq
  case zfin => run_tac Mine.sq
end
end Mine

theorem Mine.use_M06 : True := by
  w_top off
  run_tac Mine.use ["linesP", "linesZZ"]
  trivial
namespace Mine
section
variable {prog : Program} {w : World} {M : Model} {A : Around} {E : Value → Shared → Prop} {h : Heap} {g : Array GenState} {d : Drawn} {t : Nat} {os : OsState}
theorem getMethod_super {so D x C : Addr} {T id ge c : String} {Bi : Builtin} {l₀ l : List Value} {K : Frag} {name : Str} {pl : Sem Bool} {Q : Value × List Value → Shared → Prop}
    (slot : Slot T "__get__" ge) (ent : entryFor table ge = some Bi) (args : ∀ a b c, argsOk ge ⟨[a, b, c], []⟩) (ty : typeOf (.builtin id) = pure (.type T))
    (get : ∀ t A' E' Q', (Q' (.done (.ret (.ref h.objs.size))) ⟨h.push (boundO c id x), g, d, t, os⟩) → wpAny (model prog w) A' (Bi ⟨[.builtin id, .ref x, .ref C], []⟩) Q' E' ⟨h, g, d, t, os⟩)
    (hso : h.get? so = some { cls := .type "super", dict := none, data := .fields #[.ref D, .ref x, .ref C], slots := #[] }) (hno : Looks (model prog w) h (opaqueClassAbove (.ref C)) none)
    (hC : Looks (model prog w) h (mroOf (.ref C)) l₀) (hl : (l₀.dropWhile (· != .ref D)).drop 1 = l) (X : K.In h)
    (hf : alongIn K name l = some (some (.builtin id))) (hxC : x ≠ C) (hn : (name == ("__class__" : Str)) = false)
    (hq : Q (.ref h.objs.size, []) ⟨h.push (boundO c id x), g, d, t + 1, os⟩) :
    wpAny (model prog w) A (getMethod (.ref so) name pl) Q E ⟨h, g, d, t, os⟩ := by
  refine @Mine.sqz _ ?zmain ?zfin
  case zmain =>
    have hlk := F.ks_slot_super_ga.lookup
    have hcan := F.ks_canon_super_ga
    have hT : ∀ t', (⟨h, g, d, t', os⟩ : Shared).TypeIs (.ref so) "super" := fun _ => ⟨_, hso, rfl⟩
    unfold getMethod
    refine wpAny_bind (wpAny_specialOf (hT _) hlk ?_)
    show wpAny _ _ (if (Manifest.canonical "super.__getattribute__" != "object.__getattribute__") = true then _ else _) _ _ _
    rw [if_pos hcan]
    unfold getAttr getAttrBy
    refine wpAny_bind (wpAny_bind (wpAny_mkText (wpAny_holding (wpAny_bind (wpAny_typeOf (hT _) (wpAny_bind (wpAny_of_eq hlk ?_)))))))
    show wpAny _ _ (getAttrByItsOwn (.ref so) (.str name t) (.type "super") (.builtin "super.__getattribute__") true false) _ _ _
    unfold getAttrByItsOwn hookBefore callGetattribute boundAndCalled
    refine wpAny_bind (wpAny_of_eq (show (if onTheHeap (.type "super") then typeLookup (.type "super") "__getattr__" else pure none) = pure none from rfl) ?_)
    refine wpAny_bind (wpAny_attempt (wpAny_holding ?_))
    show wpAny _ _ (bindSpecial (.builtin "super.__getattribute__") (.ref so) >>= _) _ _ _
    refine wpAny_bind (wpAny_of_eq (F.ks_slot_super_ga.bind _) ?_)
    refine wpAny_mono (Q := fun v s' => v = .ref h.objs.size ∧ s' = ⟨h.push (boundO c id x), g, d, t + 1, os⟩) (E := fun _ _ => False)
      (wpAny_call_entry F.ks_slot_super_ga (hT _) F.ks_entry_super_ga (super_ga slot ent args ty (get _) hso hno hC hl X hf hxC hn ⟨_, rfl, rfl, rfl⟩) (F.ks_gaArgs_super _ _)) (fun v s' hv => ?_) fun _ _ z => z.elim
    obtain ⟨rfl, rfl⟩ := hv
    exact wpAny_pure (wpAny_pure hq)
  case zfin => run_tac Mine.sq
end
section
variable {prog : Program} {w : World} {A : Around} {E : Value → Shared → Prop} {s : Shared} {K : Frag} {h₀ : Heap} {L x C D so q : Addr} {m : Str → Option Value} {news : List (Addr × Obj)} {ox : Obj} {od : Option Obj} {name : Str}
theorem sup_meth {T id ge c : String} {Bi : Builtin} {pl : Sem Bool} {Q : Value × List Value → Shared → Prop}
    (slot : Slot T "__get__" ge) (ent : entryFor table ge = some Bi) (args : ∀ a b c, argsOk ge ⟨[a, b, c], []⟩) (ty : typeOf (.builtin id) = pure (.type T))
    (get : ∀ {h g d t os A' E' Q'}, K.In h → W.InstAt h x ox C od → (Q' (.done (.ret (.ref h.objs.size))) ⟨h.push (boundO c id x), g, d, t, os⟩) → wpAny (model prog w) A' (Bi ⟨[.builtin id, .ref x, .ref C], []⟩) Q' E' ⟨h, g, d, t, os⟩)
    (F : Fr h₀ L s.heap m) (X₀ : K.In h₀) (N : News h₀ L s.heap news) (hso : (so, ks_superObj D x C) ∈ news) (I : W.InstAt s.heap x ox C od) (ho : nsIn K cStatics "thirdparty.any" = some none)
    (hm : ks_superIn K C D name = some (some (.builtin id))) (hn : (name == ("__class__" : Str)) = false)
    (h : ∀ q h', Fr h₀ L h' m → News h₀ L h' ((q, boundO c id x) :: news) → (∀ p ∈ news, p.1 < q) → Q (.ref q, []) { s with heap := h', toks := s.toks + 1 }) : wpAny (model prog w) A (getMethod (.ref so) name pl) Q E s := by
  refine @Mine.sqz _ ?zmain ?zfin
  case zmain =>
    have X : K.In s.heap := X₀.keeps F.keep
    obtain ⟨hh, g, d, t, os⟩ := s
    cases hc : clsIn K C with
    | none => unfold ks_superIn at hm; rw [hc] at hm; cases hm
    | some cd =>
      unfold ks_superIn at hm
      rw [hc] at hm
      refine getMethod_super slot ent args ty (fun t A' E' Q' hq => get X I hq) (N _ hso).1 (looks_opaque X ho) (l₀ := cd.mro) ?_ rfl X hm (ks_ne X I hc) hn ?_
      · exact fun A Q E s k q => wpAny_bind ((looks_clsIn X hc) A _ E s k (wpAny_pure q))
      · obtain ⟨F', N', l'⟩ := ks_newsPush (s := ⟨hh, g, d, t, os⟩) (o := boundO c id x) F N rfl (Heap.get?_push_at rfl rfl) (fun b o e => Heap.get?_push_of_some _ e)
        exact h _ _ F' N' l'
  case zfin => run_tac Mine.sq
theorem sup_len {pl : Sem Bool} {Q : Value × List Value → Shared → Prop} (F : Fr h₀ L s.heap m) (X₀ : K.In h₀) (N : News h₀ L s.heap news) (hso : (so, ks_superObj D x C) ∈ news) (I : W.InstAt s.heap x ox C od) (ho : nsIn K cStatics "thirdparty.any" = some none)
    (hm : ks_superIn K C D "__len__" = some (some (.builtin "list.__len__"))) (hml : mroIn K C (.type "list") = some true)
    (h : ∀ q h', Fr h₀ L h' m → News h₀ L h' ((q, boundO "method-wrapper" "list.__len__" x) :: news) → (∀ p ∈ news, p.1 < q) → Q (.ref q, []) { s with heap := h', toks := s.toks + 1 }) : wpAny (model prog w) A (getMethod (.ref so) "__len__" pl) Q E s :=
  sup_meth slot_wd_get entry_wd_get args_wd_get ty_len (fun X I q => wd_get own_len X I hml q) F X₀ N hso I ho hm (by decide) h
theorem sup_init {pl : Sem Bool} {Q : Value × List Value → Shared → Prop} (F : Fr h₀ L s.heap m) (X₀ : K.In h₀) (N : News h₀ L s.heap news) (hso : (so, ks_superObj D x C) ∈ news) (I : W.InstAt s.heap x ox C od) (ho : nsIn K cStatics "thirdparty.any" = some none)
    (hm : ks_superIn K C D "__init__" = some (some (.builtin "list.__init__"))) (hml : mroIn K C (.type "list") = some true)
    (h : ∀ q h', Fr h₀ L h' m → News h₀ L h' ((q, boundO "method-wrapper" "list.__init__" x) :: news) → (∀ p ∈ news, p.1 < q) → Q (.ref q, []) { s with heap := h', toks := s.toks + 1 }) : wpAny (model prog w) A (getMethod (.ref so) "__init__" pl) Q E s :=
  sup_meth slot_wd_get entry_wd_get args_wd_get ty_init (fun X I q => wd_get own_init X I hml q) F X₀ N hso I ho hm (by decide) h
theorem sup_pop {pl : Sem Bool} {Q : Value × List Value → Shared → Prop} (F : Fr h₀ L s.heap m) (X₀ : K.In h₀) (N : News h₀ L s.heap news) (hso : (so, ks_superObj D x C) ∈ news) (I : W.InstAt s.heap x ox C od) (ho : nsIn K cStatics "thirdparty.any" = some none)
    (hm : ks_superIn K C D "pop" = some (some (.builtin "list.pop"))) (hml : mroIn K C (.type "list") = some true)
    (h : ∀ q h', Fr h₀ L h' m → News h₀ L h' ((q, boundO "builtin_function_or_method" "list.pop" x) :: news) → (∀ p ∈ news, p.1 < q) → Q (.ref q, []) { s with heap := h', toks := s.toks + 1 }) : wpAny (model prog w) A (getMethod (.ref so) "pop" pl) Q E s :=
  sup_meth slot_md_get entry_md_get args_md_get ty_pop (fun X I q => md_get (by decide +kernel) own_pop X I hml q) F X₀ N hso I ho hm (by decide) h
end
section
variable {prog : Program} {w : World} {A : Around} {E : Value → Shared → Prop} {s : Shared} {K : Frag} {h₀ : Heap} {L x C D so q : Addr} {m : Str → Option Value} {news news' : List (Addr × Obj)} {ox : Obj} {od : Option Obj} {name : Str}
theorem acc_at {h : Heap} {o : Obj} (N : News h₀ L h news) (h1 : (x, o) ∈ news) : h.get? x = some o := (N _ h1).1
theorem callWith_W0 {M : Model} {env : Env} {pos : Pos} {first : List Value} {Q : Value → Shared → Prop} {c id : String} (N : News h₀ L s.heap news) (hq : (q, boundO c id x) ∈ news) (hc : c = "method-wrapper" ∨ c = "builtin_function_or_method")
    (h : wpAny M A (call (.ref q) (first ++ [])) Q E s) : wpAny M A (callWith pos (.ref q) first (backTo pos (starEach [] env)) []) Q E s := by
  refine @Mine.sqz _ ?zmain ?zfin
  case zmain =>
    refine callWith_of (P := fun h' => h'.get? q = some (boundO c id x)) rfl (fun h' e => ?_) (evalArgs_nil3 ⟨(N _ hq).1, h⟩)
    refine ⟨.machine, .inr (.inl rfl), (Looks.ld (part := none) e).andThen ?_⟩
    rcases hc with rfl | rfl <;> exact .now
  case zfin => run_tac Mine.sq
/-- the call of a bound slot -/
theorem bound_slot {id : String} {b : Builtin} {Q : Value → Shared → Prop} (hkind : builtinKind id = some .slot) (hp : plainId id = true) (hb : entryFor table id = some b)
    (N : News h₀ L s.heap news) (hq : (q, boundO "method-wrapper" id x) ∈ news) (ha : argsOk id ⟨[.ref x], []⟩)
    (hc : wpAny (model prog w) A.in1 (b ⟨[.ref x], []⟩) (fun fin s' => ∃ v, fin = .done (.ret v) ∧ Q v s') E s) : wpAny (model prog w) A (call (.ref q) []) Q E s := by
  refine @Mine.sqz _ ?zmain ?zfin
  case zmain =>
    refine wpAny_call (codeAny_of_tree ?_)
    show wpAny _ A.in1 (callAny (.ref q) _) _ _ _
    unfold callAny
    refine wpAny_bind (wpAny_load (N _ hq).1 ?_)
    show wpAny _ _ (checkBoundCall id ⟨[.ref x], []⟩ >>= fun _ => again (.builtin id ⟨[.ref x], []⟩)) _ _ _
    have hcb : checkBoundCall id ⟨[.ref x], []⟩ = pure () := by
      unfold checkBoundCall
      cases hsig : Manifest.signature? id with
      | none => rfl
      | some sig =>
        simp only [argsOk, hsig] at ha
        simp only [hkind]
        exact ha
    rw [hcb]
    refine wpAny_pure ⟨plainId_quiet hp _, codeAny_builtin hb ?_⟩
    rw [Around.under_plainId hp _]
    refine wpAny_mono hc (fun fin s' h' => ?_) fun _ _ h' => h'
    obtain ⟨v, rfl, hv⟩ := h'; exact hv
  case zfin => run_tac Mine.sq
theorem list_len_call {Q : Value → Shared → Prop} {cl : Value} {dx : Option Addr} {its : Array Value} {n : Nat} {sl : Array (Option Value)} (N : News h₀ L s.heap news) (hq : (q, boundO "method-wrapper" "list.__len__" x) ∈ news) (hx : s.heap.get? x = some ⟨cl, dx, .seq its n, sl⟩)
    (h : ∀ t, Q (.int its.size t) { s with toks := s.toks + 1 }) : wpAny (model prog w) A (call (.ref q) []) Q E s := by
  refine @Mine.sqz _ ?zmain ?zfin
  case zmain =>
    refine bound_slot (by decide +kernel) (by decide +kernel) PySem.F.entry_list_len N hq (by unfold argsOk; kernel_rfl) ?_
    obtain ⟨hh, g, d, t, os⟩ := s
    unfold Builtin.«list.__len__»
    repeat (first | (with_reducible refine wpAny_seqSize hx rfl ?_) | wp_step | dsimp only)
    exact ⟨_, rfl, h _⟩
  case zfin => run_tac Mine.sq
end
end Mine

theorem Mine.use_M07 : True := by
  w_top off
  run_tac Mine.use ["linesP", "linesZZ"]
  trivial
namespace Mine
open Builtin.ObjectAttr Builtin.Getset_descriptor
theorem refuse_lo (self : Value) (C : Addr) : refuseLoop self "__setattr__" [.ref C, .type "list", .type "object"] = pure () := by
  rw [refuseLoop_ref]; kernel_rfl
theorem acc_mro (p : Params) : (clsIn (Mine.hd.heap_39 p) 145).map (·.mro) = some [.ref 145, .type "list", .type "object"] := by kernel_rfl
section
variable {prog : Program} {w : World} {A : Around} {E : Value → Shared → Prop} {s : Shared} {K : Frag} {h₀ : Heap} {L x C dx : Addr} {m : Str → Option Value} {news news' : List (Addr × Obj)} {name : Str} {R : Result → Shared → Prop}
theorem acc_osa_open {ox : Obj} {od : Option Obj} {tk : Tok} {v : Value} {r : Option Value} (X : K.In s.heap) (I : W.InstAt s.heap x ox C od) (hp : (clsIn K C).map (·.mro) = some [.ref C, .type "list", .type "object"]) (ht : takerIn K C name = some r)
    (h : ∀ b, wpAny (model prog w) A.in1 (match r with | some a => setByDescriptor a (.ref x) v | none => storeInOwnDict (.ref x) (.ref C) (.str name tk) name v b)
      (fun fin s' => match fin with | .done f => R (.ok f) s' | .again c' => c'.quiet = true ∧ codeAny (model prog w) A c' R s') (fun e s' => R (.error e) s') s) :
    codeAny (model prog w) A (.call (.builtin "object.__setattr__") ⟨[.ref x, .str name tk, v], []⟩) R s := by
  refine @Mine.sqz _ ?zmain ?zfin
  case zmain =>
    have SF := PySem.F.store_object
    obtain ⟨cd, hc, ho⟩ := Option.map_eq_some_iff.mp hp
    have sub : Looks (model prog w) s.heap (isInstance (.ref x) (.type "object")) true := I.type.andThen (looks_mroIn X (by unfold mroIn; rw [hc, Option.bind_some, ho]; rfl))
    refine codeAny_call_builtin SF.slot.plain SF.entry (@check_slot (model prog w) _ _ s "object.__setattr__" "object" "__setattr__" (.ref x) [.str name tk, v] [] _ SF.kind SF.split sub (SF.args (.ref x) (.str name tk) v) ?_)
    obtain ⟨attr, ha, hr⟩ := Option.bind_eq_some_iff.mp ht
    have hm : Looks (model prog w) s.heap (mroOf (.ref C)) cd.mro := (looks_clsIn X hc).andThen .now
    have L3 : Looks (model prog w) s.heap (storeTaker? attr) r := by
      cases attr with
      | none => cases hr; exact .now
      | some a =>
        obtain ⟨b, hb, rfl⟩ := Option.map_eq_some_iff.mp hr
        refine (looks_takesIn X hb).andThen ?_
        cases b <;> exact .now
    rw [osa_eq, refuse_eq]
    refine wpAny_bind (wpAny_bind (I.type.here (wpAny_bind (hm.here ?_))))
    rw [ho, refuse_lo]
    refine wpAny_pure (wpAny_bind (I.type.here (wpAny_bind ((looks_findIn X ha).here (wpAny_bind (L3.here ?_))))))
    exact h _
  case zfin => run_tac Mine.sq
theorem acc_osa_dict {ox od od' : Obj} {tk : Tok} {v : Value} {pre post : List (Addr × Obj)} {es : List DictEntry} {n : Nat} (F : Fr h₀ L s.heap m) (N : News h₀ L s.heap (pre ++ (dx, od) :: post)) (X : K.In s.heap)
    (I : W.InstAt s.heap x ox C (some od)) (hd : ox.dict = some dx) (hp : (clsIn K C).map (·.mro) = some [.ref C, .type "list", .type "object"]) (ht : takerIn K C name = some none) (hh : (clsIn K C).any (·.hasDict) = true)
    (hl : (lookIn name od).isSome = true) (h1 : ∀ p ∈ pre, p.1 ≠ dx) (h2 : ∀ p ∈ post, p.1 ≠ dx)
    (e : Obj.putName name (PyData.keyHash w.params name) (.str name s.toks) v od = od') (e' : od'.data = .dict es.toArray n) (hz : es.length ≤ 1000)
    (h : ∀ h', Fr h₀ L h' m → News h₀ L h' (pre ++ (dx, od') :: post) → R (.ok (.ret .none)) { s with heap := h', toks := s.toks + 1 }) :
    codeAny (model prog w) A (.call (.builtin "object.__setattr__") ⟨[.ref x, .str name tk, v], []⟩) R s := by
  refine @Mine.sqz _ ?zmain ?zfin
  case zmain =>
    refine acc_osa_open X I hp ht fun b => ?_
    obtain ⟨cd, hc, hd'⟩ := any_some hh
    obtain ⟨U1, U2⟩ := news_upd (f := Obj.putName name (PyData.keyHash w.params name) (.str name s.toks) v) F N h1 h2 e (by obtain ⟨_, _, dd, _⟩ := od'; cases e'; rfl)
    have D := (N (dx, od) (by simp)).1
    have D' := (U2 (dx, od') (by simp)).1
    obtain ⟨hx, hcl, hn, -⟩ := I
    obtain ⟨oc, odi, oda, osl⟩ := ox
    dsimp only at hcl hd
    subst hcl hd
    refine wpAny_bind (wpAny_pure (wpAny_bind (wpAny_bind (wpAny_loadPart hx (wpAny_bind ((looks_clsIn X hc).here ?_))))))
    rw [hd']
    refine wpAny_pure (a := some dx) (wpAny_bind (wpAny_pure (wpAny_bind ?_)))
    unfold nsSet
    refine wpAny_bind (wpAny_bind (wpAny_askSetting (wpAny_pure (wpAny_bind (wpAny_mkText (wpAny_bind (wpAny_loadPart D ?_)))))))
    unfold lookIn at hl
    split at hl
    · rename_i es₀ n₀ q
      rw [q]
      dsimp only
      have c : (!es₀.any (·.key.isStr name) && es₀.any (·.refKey)) = false := by
        rw [← Array.any_toList, ← Array.any_toList]
        split at hl
        · rename_i en he
          rw [List.any_eq_true.mpr ⟨en, List.mem_of_find?_eq_some he, List.find?_some he⟩]; rfl
        · split at hl
          · cases hl
          · rename_i z; rw [Bool.not_eq_true] at z; rw [z, Bool.and_false]
      rw [aRefKeyMayBeTheName_at, c]
      refine wpAny_updatePart D ?_
      refine wpAny_bind (wpAny_lookBehind D' (by rw [e']; exact pastItsLine_dict (by rw [List.size_toArray, sizeLine_eq]; omega)) ?_)
      exact wpAny_pure (h _ U1 U2)
    · cases hl
  case zfin => run_tac Mine.sq
theorem acc_set {ox : Obj} {v : Value} {es es' : List DictEntry} {n n' : Nat} {Q : Unit → Shared → Prop} (F : Fr h₀ L s.heap m) (X₀ : K.In h₀) (N : News h₀ L s.heap news) (I : W.InstAt s.heap x ox C (some (dictOf es n))) (hd : ox.dict = some dx)
    (hs : findIn K (.ref C) "__setattr__" = some (some (.builtin "object.__setattr__"))) (hp : (clsIn K C).map (·.mro) = some [.ref C, .type "list", .type "object"]) (ht : takerIn K C name = some none) (hh : hasDictIn K C = true) (hl : (getL name es).isSome = true)
    (e : (putL name (PyData.keyHash w.params name) (.str name (s.toks + 1)) v es, putN name es n) = (es', n')) (U : Upd dx (dictOf es n) (dictOf es' n') news news') (hz : es'.length ≤ 1000)
    (h : ∀ h', Fr h₀ L h' m → News h₀ L h' news' → Q () { s with heap := h', toks := s.toks + 2 }) :
    wpAny (model prog w) A (setAttr (.ref x) name v) Q E s := by
  refine @Mine.sqz _ ?zmain ?zfin
  case zmain =>
    obtain ⟨pre, post, rfl, rfl, a, b⟩ := U.split
    obtain ⟨e1, e2⟩ := Prod.mk.inj e
    exact set_plain (X₀.keeps F.keep) I hs (acc_osa_dict (s := { s with toks := s.toks + 1 }) F N (X₀.keeps F.keep) I hd hp ht hh hl a b (by rw [putName_dict, e1, e2]) rfl hz fun h' F' N' => h h' F' N')
  case zfin => run_tac Mine.sq
end
end Mine

theorem Mine.use_M08 : True := by
  w_top off
  run_tac Mine.use ["linesP", "linesZZ"]
  trivial
namespace Mine
section
variable {prog : Program} {w : World} {A : Around} {E : Value → Shared → Prop} {s : Shared} {K : Frag} {h₀ : Heap} {L x C dx q : Addr} {m : Str → Option Value} {news news' : List (Addr × Obj)} {name : Str} {R : Result → Shared → Prop}
theorem list_init_call {Q : Value → Shared → Prop} {cl : Value} {dx : Option Addr} {n : Nat} {sl : Array (Option Value)} (F : Fr h₀ L s.heap m) (N : News h₀ L s.heap news) (hq : (q, boundO "method-wrapper" "list.__init__" x) ∈ news)
    (U : Upd x ⟨cl, dx, .seq #[] n, sl⟩ ⟨cl, dx, .seq #[] n, sl⟩ news news)
    (h : ∀ h', Fr h₀ L h' m → News h₀ L h' news → Q .none { s with heap := h' }) : wpAny (model prog w) A (call (.ref q) []) Q E s := by
  refine @Mine.sqz _ ?zmain ?zfin
  case zmain =>
    obtain ⟨F', N', ho⟩ := upd_at (f := Obj.mapSeq (fun _ => #[])) F N U (by rw [mapSeq_acc rfl]; simp) rfl
    refine bound_slot (by decide +kernel) (by decide +kernel) PySem.F.entry_list_init N hq (by unfold argsOk; kernel_rfl) ?_
    obtain ⟨hh, g, d, t, os⟩ := s
    unfold Builtin.«list.__init__»
    repeat (first | (with_reducible refine wpAny_seqItems ho rfl ?_) | wp_step | dsimp only)
    exact ⟨_, rfl, h _ F' N'⟩
  case zfin => run_tac Mine.sq
end
end Mine

theorem Mine.use_M09 : True := by
  w_top off
  run_tac Mine.use ["linesP", "linesZZ"]
  trivial
namespace Mine
open Builtin.ObjectAttr Builtin.Getset_descriptor
noncomputable def lmakesIn (K : Frag) (C : Addr) : Bool := match K.lookup C with
  | some ⟨_, _, .cls cd, sl⟩ => !cd.abstract && !cd.hasDel && (sl.toList[4]?).join == some (.builtin "list.__new__") && !cd.mro.isEmpty && cd.mro.contains (.ref C) && cd.mro.contains (.type "list") &&
      specialIn K (.ref C) "__call__" == some (some (.builtin "type.__call__")) && instIn K (.ref C) (.type "type") == some true
  | _ => false
structure LMakes (M : Model) (h : Heap) (C : Addr) : Prop where
  obj : ∃ oc od cd sl, h.get? C = some ⟨oc, od, .cls cd, sl⟩ ∧ cd.abstract = false ∧ cd.hasDel = false ∧ cd.mro.isEmpty = false
  made : Looks M h (Bind.madeBy (.ref C)) (some "list.__new__")
  base : Looks M h (Bind.staticBase (.ref C)) (.ref C)
  self : Looks M h (isSubtype (.ref C) (.ref C)) true
  top : Looks M h (isSubtype (.ref C) (.type "list")) true
  call : Looks M h (specialOf (.ref C) "__call__") (some (.builtin "type.__call__"))
  typ : Looks M h (isInstance (.ref C) (.type "type")) true
theorem lmakes_of {K : Frag} {M : Model} {h : Heap} (X : K.In h) {C : Addr} (e : lmakesIn K C = true) : LMakes M h C := by
  refine @Mine.sqz _ ?zmain ?zfin
  case zmain =>
    unfold lmakesIn at e
    split at e
    · rename_i oc od cd sl ho
      simp only [Bool.and_eq_true, Bool.not_eq_true', beq_iff_eq] at e
      obtain ⟨⟨⟨⟨⟨⟨⟨e1, e2⟩, e3⟩, e4⟩, e5⟩, e6⟩, e7⟩, e8⟩ := e
      have hc : clsIn K C = some cd := by unfold clsIn; rw [ho]
      have hm : Looks M h (mroOf (.ref C)) cd.mro := (looks_clsIn X hc).andThen .now
      obtain ⟨c, l, hl⟩ : ∃ c l, cd.mro = c :: l := by cases q : cd.mro with | nil => rw [q] at e4; cases e4 | cons c l => exact ⟨c, l, rfl⟩
      have made : Looks M h (Bind.madeBy (.ref C)) (some "list.__new__") := by
        intro A Q E s k q
        unfold Bind.madeBy
        refine wpAny_bind (hm A _ E s k ?_)
        rw [hl, List.forIn_cons]
        refine wpAny_bind (wpAny_bind (wpAny_bind (wpAny_bind (wpAny_loadPart (k _ _ (X _ _ ho)) (wpAny_pure ?_)))))
        dsimp only
        rw [← Array.getElem?_toList, e3]
        exact wpAny_pure (wpAny_pure (wpAny_pure q))
      refine ⟨⟨oc, od, cd, sl, X _ _ ho, e1, e2, e4⟩, made, ?_, looks_mroIn X ?_, looks_mroIn X ?_, looks_specialIn X e7, looks_instIn X e8⟩
      · intro A Q E s k q
        unfold Bind.staticBase
        refine wpAny_bind (hm A _ E s k ?_)
        rw [hl, List.forIn_cons]
        exact wpAny_bind (wpAny_bind (wpAny_bind (made A _ E s k (wpAny_pure (wpAny_pure (wpAny_pure q))))))
      · unfold mroIn; rw [hc, Option.bind_some, if_neg (by rw [e4]; decide), e5]
      · unfold mroIn; rw [hc, Option.bind_some, if_neg (by rw [e4]; decide), e6]
    · cases e
  case zfin => run_tac Mine.sq
theorem acc_lmakes (p : Params) : lmakesIn (Mine.hd.heap_39 p) 145 = true := by kernel_rfl
noncomputable abbrev linstObj (C dx : Addr) : Obj := { cls := .ref C, dict := some dx, data := .seq #[] }
section
variable {prog : Program} {w : World} {A : Around} {K : Frag} {C : Addr} {R : Result → Shared → Prop} {h : Heap} {g : Array GenState} {d : Drawn} {t : Nat} {os : OsState}
theorem lnew_K {rest : List Value} (Y : LMakes (model prog w) h C)
    (hq : R (.ok (.ret (.ref (h.objs.size + 1)))) ⟨(h.push emptyDict).push (linstObj C h.objs.size), g, d, t, os⟩) :
    codeAny (model prog w) A (.call (.builtin "list.__new__") ⟨.ref C :: rest, []⟩) R ⟨h, g, d, t, os⟩ := by
  refine @Mine.sqz _ ?zmain ?zfin
  case zmain =>
    obtain ⟨⟨oc, od, cd, sl, hC, e1, e2, e4⟩, made, base, self, top, call, typ⟩ := Y
    refine codeAny_of_tree ?_
    show wpAny _ A.in1 (do checkBuiltinCall "list.__new__" ⟨.ref C :: rest, []⟩; again (.builtin "list.__new__" ⟨.ref C :: rest, []⟩)) _ _ _
    have here : Looks (model prog w) h (Bind.madeHere "list.__new__" (.ref C)) () := base.andThen (made.andThen (Looks.of_pure (by simp only [Option.map_some, bne_self_eq_false, Bool.false_eq_true, if_false])))
    have kind : builtinKind "list.__new__" = some .builtinFn := by decide +kernel
    have spl : splitId "list.__new__" = some ("list", "__new__") := by decide +kernel
    have args : (match Manifest.signature? "list.__new__" with | some sig => Bind.checkArgs "list.__new__" sig ⟨.ref C :: rest, []⟩ | _ => pure ()) = pure () := by kernel_rfl
    have hcls : ∀ {Q : Bool → Shared → Prop} {E A}, Q true ⟨h, g, d, t, os⟩ → wpAny (model prog w) A (isType (.ref C)) Q E ⟨h, g, d, t, os⟩ := fun q => ks_wpAny_isType_cls hC rfl q
    unfold checkBuiltinCall
    simp only [kind, spl]
    rw [if_pos (show (("__new__" : String) == "__new__") = true by decide)]
    have hown := owner_list_new
    refine wpAny_bind (wpAny_bind (hcls ?_))
    rw [if_neg (by decide)]
    refine wpAny_bind (top.at ?_)
    rw [if_neg (by decide)]
    refine wpAny_bind (base.at (wpAny_bind (made.at ?_)))
    dsimp only
    rw [if_neg (by simp)]
    refine wpAny_of_eq args ?_
    refine wpAny_pure ⟨plainId_quiet PySem.F.plain_list_new _, codeAny_builtin_stack PySem.F.entry_list_new rfl fun p st => ?_⟩
    rw [Around.under_plainId PySem.F.plain_list_new _]
    simp only [hown]
    refine wpAny_bind (hcls ?_)
    rw [if_neg (by decide)]
    refine wpAny_bind (top.at ?_)
    rw [if_neg (by decide)]
    have hC' := Heap.get?_push_of_some (linstObj C (h.push emptyDict).objs.size.pred) (Heap.get?_push_of_some emptyDict hC)
    refine wpAny_bind (wpAny_pure ?_)
    rw [if_neg (show ¬ (!typeHasDict (.ref C)) = true from Bool.noConfusion)]
    unfold newDict
    refine wpAny_bind ?_
    with_reducible refine wpAny_newObj_type ?_ (by size_fits)
    dsimp only
    refine wpAny_bind ?_
    unfold newObj
    dsimp only
    rw [if_neg (by simp)]
    unfold newObjAsIs classHasDel
    refine wpAny_bind (wpAny_alloc (wpAny_bind (wpAny_bind (wpAny_load (Heap.get?_push_of_some _ (Heap.get?_push_of_some _ hC)) (wpAny_pure ?_)))))
    rw [e2]
    refine wpAny_pure (wpAny_pure ?_)
    show R _ _
    rw [Heap.size_push]
    exact hq
  case zfin => run_tac Mine.sq
theorem lmake_core {rest : List Value} {fI : Addr} (Y : LMakes (model prog w) h C) (hi : Looks (model prog w) h (typeLookup (.ref C) "__init__") (some (.ref fI)))
    (hb : ∀ self, Looks (model prog w) h (bindSpecial (.ref fI) self) (.ref fI, [self]))
    (hq : codeAny (model prog w) (A.under (.builtin "type.__call__" ⟨.ref C :: rest, []⟩)) (.call (.ref fI) ⟨.ref (h.objs.size + 1) :: rest, []⟩) (InitBack (h.objs.size + 1) R) ⟨(h.push emptyDict).push (linstObj C h.objs.size), g, d, t, os⟩) :
    codeAny (model prog w) A (.call (.ref C) ⟨rest, []⟩) R ⟨h, g, d, t, os⟩ := by
  refine @Mine.sqz _ ?zmain ?zfin
  case zmain =>
    have Y' := Y
    obtain ⟨⟨oc, od, cd, sl, hC, e1, e2, e4⟩, made, base, self, top, call, typ⟩ := Y
    refine codeAny_of_tree ?_
    show wpAny _ _ (callAny (.ref C) _) _ _ _
    refine nd_load hC ?_
    show wpAny _ _ (callAny.viaDunder (.ref C) _) _ _ _
    unfold callAny.viaDunder
    refine wpAny_bind (call.at ?_)
    dsimp only
    rw [tc_bind]
    refine wpAny_bind (wpAny_pure (wpAny_bind (wpAny_pure ?_)))
    refine wpAny_pure (a := Fin.again (.call (.builtin "type.__call__") ⟨.ref C :: rest, []⟩)) (And.intro rfl ?_)
    refine codeAny_call_builtin_at (Code.quiet_builtin _ (by decide +kernel)) entry_typeCall (check_slot tc_kind tc_split typ (tc_args _ _ _) ?_)
    unfold Builtin.«type.__call__»
    have hm : Looks (model prog w) h (mroOf (.ref C)) cd.mro := ((Looks.ld (part := none) hC).andThen .now).andThen .now
    repeat (first | simp only [e4, Bool.false_eq_true, if_false] | with_reducible refine wpAny_call ?_ | lk)
    refine lnew_K Y' ?_
    have k : ∀ b o, h.get? b = some o → ((h.push emptyDict).push (linstObj C h.objs.size)).get? b = some o := fun b o e => Heap.get?_push_of_some _ (Heap.get?_push_of_some _ e)
    have hx : ((h.push emptyDict).push (linstObj C h.objs.size)).get? (h.objs.size + 1) = some (linstObj C h.objs.size) := by heap_get
    have t1 : Looks (model prog w) ((h.push emptyDict).push (linstObj C h.objs.size)) (typeOf (.ref (h.objs.size + 1))) (.ref C) := (Looks.ld hx).andThen .now
    have s1 := self.keeps k
    have i1 := hi.keeps k
    have b1 := (hb (.ref (h.objs.size + 1))).keeps k
    unfold isInstance callSpecial? specialOf
    repeat (first | with_reducible refine wpAny_call ?_ | lk)
    refine codeAny_mono hq fun r s' z => ?_
    rcases r with e | (v | _ | _ | _) <;> first | exact z | exact z.elim | skip
    obtain ⟨rfl, z⟩ := z
    exact wpAny_pure (wpAny_pure z)
  case zfin => run_tac Mine.sq
end
section
variable {prog : Program} {w : World} {A : Around} {E : Value → Shared → Prop} {K : Frag} {C x : Addr} {s : Shared} {h₀ : Heap} {L : Addr} {m : Str → Option Value} {news : List (Addr × Obj)} {R : Result → Shared → Prop} {Q : Value → Shared → Prop}
theorem lmake_K {rest : List Value} {fI : Addr} (F : Fr h₀ L s.heap m) (X₀ : K.In h₀) (N : News h₀ L s.heap news) (hm : lmakesIn K C = true)
    (hi : findIn K (.ref C) "__init__" = some (some (.ref fI))) (hf : isFn K (.ref fI) = true)
    (h : ∀ x dx h', Fr h₀ L h' m → News h₀ L h' ((x, linstObj C dx) :: (dx, dictOf [] 0) :: news) → (∀ p ∈ news, p.1 < dx) → dx < x →
      codeAny (model prog w) (A.under (.builtin "type.__call__" ⟨.ref C :: rest, []⟩)) (.call (.ref fI) ⟨.ref x :: rest, []⟩) (InitBack x fun r s' => match r with | .ok (.ret v) => Q v s' | .ok _ => False | .error e => E e s') { s with heap := h' }) :
    wpAny (model prog w) A (call (.ref C) rest) Q E s := by
  refine @Mine.sqz _ ?zmain ?zfin
  case zmain =>
    refine wpAny_call ?_
    have X := X₀.keeps F.keep
    obtain ⟨hh, g, d, t, os⟩ := s
    refine lmake_core (lmakes_of X hm) (looks_findIn X hi) (fun self => bind_fn X self (beq_iff_eq.mp hf)) (h _ hh.objs.size _ ((F.push _).push _) ?_ (fun p hp => Heap.lt_size (N p hp).1) (Nat.lt_succ_self _))
    have := (N.push F emptyDict).push (F.push _) (linstObj C hh.objs.size)
    rwa [Heap.size_push] at this
  case zfin => run_tac Mine.sq
end
end Mine

theorem Mine.use_M13 : True := by
  w_top off
  run_tac Mine.use ["linesP", "linesZZ"]
  trivial
namespace Mine
theorem codeAmong_app {pos : Pos} {a b : Int} {c cv : Value} (l : List Value) (h : TriplesOk l) : codeAmong pos (l ++ [rawInt a, rawInt b, c]) = some cv → codeAmong pos l = some cv ∨ cv = c := by
  refine @Mine.sqz _ ?zmain ?zfin
  case zmain =>
    fun_induction TriplesOk l with
    | case1 => 
      simp only [List.nil_append, codeAmong, rawInt]
      split
      · intro e; exact .inr (Option.some.inj e).symm
      · intro e; cases e
    | case2 a' t b' u x rest ih =>
      simp only [List.cons_append, codeAmong]
      split
      · exact .inl
      · exact ih h
    | case3 l h1 h2 => exact h.elim
  case zfin => run_tac Mine.sq
noncomputable def isTabE (o : Obj) : Bool := match o.data with | .fields vs => o.cls == .none || (match (vs[1]? : Option Value) with | some (.str _ _) => true | _ => false) | _ => false
theorem isTabE_cell {o : Obj} {v : Option Value} (h : o.data = .cell v) : isTabE o = false := by unfold isTabE; rw [h]
theorem isTabE_dict {o : Obj} {es : Array DictEntry} {n : Nat} (h : o.data = .dict es n) : isTabE o = false := by unfold isTabE; rw [h]
noncomputable abbrev tabList : List (Addr × Str) := [(107, "_Accumulator.__len__.<locals>.<genexpr>"), (114, "_Accumulator.__str__.<locals>.<genexpr>"), (234, "C14NWriterTarget._start.<locals>.<lambda>"), (296, "_law_sheet.<locals>.<lambda>"), (291, "_law_found.<locals>.<lambda>"), (286, "_law_rows.<locals>.<lambda>")]
structure CodeIn (T : List (Addr × Obj)) (qual : Str) (cv : Value) (c' : Addr) (oc : Obj) : Prop where
  eq : cv = .ref c'
  mem : (c', oc) ∈ T
  data : ∃ vs t, oc.data = .fields vs ∧ vs[1]? = some (.str qual t)
  apart : ∀ q ∈ tabList, c' ≠ q.1
structure TabOk (T : List (Addr × Obj)) (P : Addr) (qual : Str) (ps : Array Value) : Prop where
  mem : (P, tabObj ps) ∈ T
  ok : TriplesOk ps.toList
  codes : ∀ pos cv, codeAmong pos ps.toList = some cv → ∃ c' oc, CodeIn T qual cv c' oc
structure Tabs (T : List (Addr × Obj)) : Prop where
  all : ∀ p ∈ T, isTabE p.2 = true
  tab : ∀ q ∈ tabList, ∃ ps, TabOk T q.1 q.2 ps
noncomputable def TabsLe (T T' : List (Addr × Obj)) : Prop := ∀ p ∈ T, (∀ q ∈ tabList, p.1 ≠ q.1) → p ∈ T'
theorem TabsLe.refl {T : List (Addr × Obj)} : TabsLe T T := fun _ h _ => h
theorem TabsLe.trans {T T' T'' : List (Addr × Obj)} (a : TabsLe T T') (b : TabsLe T' T'') : TabsLe T T'' := fun p h k => b p (a p h k) k
theorem CodeIn.le {T T' : List (Addr × Obj)} {qual : Str} {cv : Value} {c' : Addr} {oc : Obj} (a : TabsLe T T') (h : CodeIn T qual cv c' oc) : CodeIn T' qual cv c' oc := ⟨h.eq, a _ h.mem h.apart, h.data, h.apart⟩
theorem CodeIn.isTab {T : List (Addr × Obj)} {qual : Str} {cv : Value} {c' : Addr} {oc : Obj} (h : CodeIn T qual cv c' oc) : isTabE oc = true := by
  obtain ⟨vs, t, e1, e2⟩ := h.data
  unfold isTabE
  rw [e1]
  simp only [e2, Bool.or_true]
section
variable {h₀ h : Heap} {L : Addr} {X T : List (Addr × Obj)}
theorem news_same {news : List (Addr × Obj)} (N : News h₀ L h news) {a : Addr} {o o' : Obj} (h1 : (a, o) ∈ news) (h2 : (a, o') ∈ news) : o = o' := by
  have e1 := (N _ h1).1
  have e2 := (N _ h2).1
  exact Option.some.inj (e1.symm.trans e2)
theorem tabs_apart {news : List (Addr × Obj)} (N : News h₀ L h news) (hs : ∀ p ∈ T, p ∈ news) (hT : Tabs T) {a : Addr} {o : Obj} (ha : (a, o) ∈ news) (hn : isTabE o = false) : ∀ p ∈ T, p.1 ≠ a := by
  rintro ⟨b, ob⟩ hp rfl
  have e := news_same N (hs _ hp) ha
  have := hT.all _ hp
  rw [e] at this
  rw [hn] at this
  cases this
noncomputable def regrownT (T : List (Addr × Obj)) (P : Addr) (ps : Array Value) (pos : Pos) (c' : Addr) (oc : Obj) : List (Addr × Obj) :=
  (P, tabObj (ps ++ #[rawInt pos.line, rawInt pos.col, .ref c'])) :: (c', oc) :: T.filter (fun p => p.1 != P)
theorem tabs_le {P : Addr} {ps : Array Value} {pos : Pos} {c' : Addr} {oc : Obj} {qual : Str} (hP : (P, qual) ∈ tabList) : TabsLe T (regrownT T P ps pos c' oc) := fun p hp k =>
  .tail _ (.tail _ (List.mem_filter.mpr ⟨hp, by simpa using k _ hP⟩))
theorem tabs_grow {P : Addr} {ps : Array Value} {pos : Pos} {c' : Addr} {oc : Obj} {qual : Str} {news : List (Addr × Obj)} (N : News h₀ L h news) (hs : ∀ p ∈ T, p ∈ news) (hT : Tabs T) (hP : (P, qual) ∈ tabList) (hp : TabOk T P qual ps)
    (hc : ∀ q ∈ tabList, c' ≠ q.1) (hd : ∃ vs t, oc.data = .fields vs ∧ vs[1]? = some (.str qual t)) : Tabs (regrownT T P ps pos c' oc) := by
  refine @Mine.sqz _ ?zmain ?zfin
  case zmain =>
    have hle := tabs_le (T := T) (ps := ps) (pos := pos) (c' := c') (oc := oc) hP
    have hcode : CodeIn (regrownT T P ps pos c' oc) qual (.ref c') c' oc := ⟨rfl, .tail _ (.head _), hd, hc⟩
    have hl : (ps ++ #[rawInt pos.line, rawInt pos.col, Value.ref c']).toList = ps.toList ++ [rawInt pos.line, rawInt pos.col, .ref c'] := by simp
    refine ⟨fun p h => ?_, fun q hq => ?_⟩
    · rcases List.mem_cons.mp h with rfl | h
      · rfl
      · rcases List.mem_cons.mp h with rfl | h
        · exact hcode.isTab
        · exact hT.all _ (List.mem_filter.mp h).1
    · by_cases e : q.1 = P
      · have e2 : q = (P, qual) := by
          have hn : ∀ q ∈ tabList, ∀ q' ∈ tabList, q.1 = q'.1 → q = q' := by decide
          exact hn _ hq _ hP e
        subst e2
        refine ⟨_, .head _, by rw [hl]; exact TriplesOk_snoc _ _ _ _ hp.ok, fun pos' cv e3 => ?_⟩
        rw [hl] at e3
        rcases codeAmong_app _ hp.ok e3 with e4 | rfl
        · obtain ⟨c2, oc2, h2⟩ := hp.codes _ _ e4
          exact ⟨c2, oc2, h2.le hle⟩
        · exact ⟨c', oc, hcode⟩
      · obtain ⟨ps2, h2⟩ := hT.tab q hq
        refine ⟨ps2, .tail _ (.tail _ (List.mem_filter.mpr ⟨h2.mem, by simpa using e⟩)), h2.ok, fun pos' cv e3 => ?_⟩
        obtain ⟨c2, oc2, h3⟩ := h2.codes _ _ e3
        exact ⟨c2, oc2, h3.le hle⟩
  case zfin => run_tac Mine.sq
end
inductive Split (T : List (Addr × Obj)) : List (Addr × Obj) → List (Addr × Obj) → Prop
  | nil : Split T T []
  | cons {p n X} : Split T n X → Split T (p :: n) (p :: X)
theorem Split.app {T : List (Addr × Obj)} : ∀ {E : List (Addr × Obj)}, Split T (E ++ T) E
  | [] => .nil
  | _ :: _ => .cons Split.app
theorem Split.eq {T n X : List (Addr × Obj)} : Split T n X → n = X ++ T
  | .nil => rfl
  | .cons h => by rw [h.eq]; rfl
end Mine

theorem Mine.use_M14 : True := by
  w_top off
  run_tac Mine.use ["linesP", "linesZZ"]
  trivial
namespace Mine
section
variable {M : Model} {A : Around} {E : Value → Shared → Prop} {s : Shared} {h₀ : Heap} {L a c P : Addr} {m mg mb : Str → Option Value} {cn : Str} {cs : Scope} {ccd : Value} {cl : List (Str × Addr)} {news X T : List (Addr × Obj)}
  {p : Program} {loose : List Str} {mean : ExcName → Option Value} {name qual : Str} {params : Arguments} {body : Expr} {scope : Scope} {pos : Pos} {firstLine : Nat} {clos : List (Str × Addr)}
theorem grow_news {h' : Heap} {ps : Array Value} {c' : Addr} {oc : Obj} {P : Addr} (F : Fr h₀ L s.heap m) (N : News h₀ L s.heap (X ++ T)) (hX : ∀ p ∈ X, isTabE p.2 = false) (hp : (P, tabObj ps) ∈ T)
    (hx : Heap.ExtBut P s.heap h') (hge : s.heap.objs.size ≤ c') (hoc : h'.get? c' = some oc) (htb : h'.get? P = some (tabObj (ps ++ #[rawInt pos.line, rawInt pos.col, .ref c']))) :
    Fr h₀ L h' m ∧ News h₀ L h' (X ++ regrownT T P ps pos c' oc) := by
  refine @Mine.sqz _ ?zmain ?zfin
  case zmain =>
    have hm := N (P, tabObj ps) (List.mem_append_right _ hp)
    have hLs : L < s.heap.objs.size := F.ns.lt
    have hLc : L < c' := Nat.lt_of_lt_of_le hLs hge
    have fresh : ∀ b, L < b → h₀.get? b = none := fun b hb => Heap.get?_none_of_le (Nat.le_trans F.above (Nat.le_of_lt hb))
    refine ⟨⟨F.ns.extBut hx hm.2.1.symm, fun b o e => hx b o (fun q => by rw [q, hm.2.2] at e; cases e) (F.keep b o e), F.above⟩, fun q hq => ?_⟩
    rcases List.mem_append.mp hq with hq | hq
    · have n := N q (List.mem_append_left _ hq)
      refine ⟨hx _ _ (fun e => ?_) n.1, n.2⟩
      have e2 := n.1
      rw [e, hm.1] at e2
      have e3 := hX q hq
      rw [← Option.some.inj e2] at e3
      cases e3
    · rcases List.mem_cons.mp hq with rfl | hq
      · exact ⟨htb, hm.2⟩
      · rcases List.mem_cons.mp hq with rfl | hq
        · exact ⟨hoc, Nat.ne_of_gt hLc, fresh _ hLc⟩
        · have h2 := List.mem_filter.mp hq
          have n := N q (List.mem_append_right _ h2.1)
          exact ⟨hx _ _ (by simpa using h2.2) n.1, n.2⟩
  case zfin => run_tac Mine.sq
theorem lam_T {qn : Str} {Q : Value → Shared → Prop} (F : Fr h₀ L s.heap m) (N : News h₀ L s.heap news) (hs : Split T news X) (hX : ∀ p ∈ X, isTabE p.2 = false) (hT : Tabs T) (T0 : Top p loose mean mg mb h₀) (C : CodeHd h₀ c P) (hcd : ccd = .ref c)
    (hP : (P, qn) ∈ tabList) (hq : qn = qual) (hcl : closureFor scope (envX cn cs L a ccd cl) = pure clos)
    (h : ∀ f c' oc ctv h' tk T', Fr h₀ L h' m → News h₀ L h' ((f, kla_obj name qual params body scope clos ((mg "__name__").getD .none) c' ctv) :: (X ++ T')) → Tabs T' → TabsLe T T' → CodeIn T' qual (.ref c') c' oc → (∀ q ∈ X, q.1 < f) → Q (.ref f) { s with heap := h', toks := tk }) :
    wpAny M A (makeFunction name qual params (.expr body) scope (envX cn cs L a ccd cl) [] [] [] pos firstLine) Q E s := by
  refine @Mine.sqz _ ?zmain ?zfin
  case zmain =>
    obtain rfl := hs.eq
    subst hq
    obtain ⟨ps, hp⟩ := hT.tab _ hP
    have hm := N (P, tabObj ps) (List.mem_append_right _ hp.mem)
    have hgs := T0.g.keeps F.keep
    obtain ⟨bm, ob, b1, b2, b3, b4, b5, b6⟩ := T0.bmain
    have hgP : mainGlobals ≠ P := fun q => by
      obtain ⟨o, es, ep, e, hd, _⟩ := hgs
      rw [q, hm.1] at e; cases e; cases hd
    have hbP : bm ≠ P := fun q => by
      have e := F.keep _ _ b3
      rw [q, hm.1] at e; cases e; cases b4
    have hbG : bm ≠ mainGlobals := fun q => by
      obtain ⟨o, es, ep, e, hd, _⟩ := T0.g
      rw [q, e] at b3; cases b3; rw [hd] at b6; cases b6
    have fresh : ∀ b, L < b → h₀.get? b = none := fun b hb => Heap.get?_none_of_le (Nat.le_trans F.above (Nat.le_of_lt hb))
    have hLs : L < s.heap.objs.size := F.ns.lt
    cases hf : codeAmong pos ps.toList with
    | none =>
      refine kla_makeFunction (mg := mg) hcl rfl hgs hcd (C.keeps F.keep) hm.1 hp.ok hf hgP ⟨bm, ob, b1, b2, hbG, hbP, F.keep _ _ b3, b4, b5, b6⟩ fun c' ctv h' tk hx hge hlt hrec htb => ?_
      obtain ⟨c₂, oc, vs, t, e2, hoc, hd, hv⟩ := hrec
      cases e2
      have hap : ∀ q ∈ tabList, c' ≠ q.1 := fun q hq e => by
        obtain ⟨ps2, h2⟩ := hT.tab q hq
        have e3 := Heap.lt_size (N _ (List.mem_append_right X h2.mem)).1
        exact absurd (Nat.lt_of_lt_of_le (e ▸ e3) hge) (Nat.lt_irrefl _)
      have hG := tabs_grow (pos := pos) (c' := c') (oc := oc) N (fun p hp => List.mem_append_right _ hp) hT hP hp hap ⟨vs, t, hd, hv⟩
      obtain ⟨F', N'⟩ := grow_news F N hX hp.mem hx hge hoc htb
      have hfL : L < h'.objs.size := Nat.lt_trans (Nat.lt_of_lt_of_le hLs hge) hlt
      refine h h'.objs.size c' oc ctv _ tk (regrownT T P ps pos c' oc) (F'.push _) (fun q hq => ?_) hG (tabs_le hP) ⟨rfl, .tail _ (.head _), ⟨vs, t, hd, hv⟩, hap⟩ (fun q hq => Heap.lt_size (N' q (List.mem_append_left _ hq)).1)
      rcases List.mem_cons.mp hq with rfl | hq
      · exact ⟨Heap.get?_push_size _ rfl, Nat.ne_of_gt hfL, fresh _ hfL⟩
      · exact ⟨Heap.get?_push_of_some _ (N' q hq).1, (N' q hq).2⟩
    | some cv =>
      obtain ⟨c', oc, hc⟩ := hp.codes _ _ hf
      obtain rfl := hc.eq
      refine kla_makeFunctionHit (mg := mg) hcl rfl hgs hcd (C.keeps F.keep) hm.1 hp.ok hf ⟨bm, ob, b1, b2, hbG, hbP, F.keep _ _ b3, b4, b5, b6⟩ fun ctv h' tk hk hsz => ?_
      have hfL : L < h'.objs.size := Nat.lt_of_lt_of_le hLs hsz
      refine h h'.objs.size c' oc ctv _ tk T ⟨(F.ns.keeps hk).push _, fun b o e => Heap.get?_push_of_some _ (hk b o (F.keep b o e)), F.above⟩ (fun q hq => ?_) hT .refl hc (fun q hq => Nat.lt_of_lt_of_le (Heap.lt_size (N q (List.mem_append_left _ hq)).1) hsz)
      rcases List.mem_cons.mp hq with rfl | hq
      · exact ⟨Heap.get?_push_size _ rfl, Nat.ne_of_gt hfL, fresh _ hfL⟩
      · exact ⟨Heap.get?_push_of_some _ (hk _ _ (N q hq).1), (N q hq).2⟩
  case zfin => run_tac Mine.sq
end
end Mine

theorem Mine.use_M15 : True := by
  w_top off
  run_tac Mine.use ["linesP", "linesZZ"]
  trivial
namespace Mine
noncomputable def SeqAt (h : Heap) (a : Addr) (items : Array Value) : Prop := ∃ o n, h.get? a = some o ∧ o.data = .seq items n
theorem SeqAt.at {h h' : Heap} {a : Addr} {items : Array Value} (x : SeqAt h a items) (k : ∀ o, h.get? a = some o → h'.get? a = some o) : SeqAt h' a items := let ⟨o, n, e, r⟩ := x; ⟨o, n, k o e, r⟩
section
variable {prog : Program} {w : World} {A : Around} {E : Value → Shared → Prop} {s : Shared} {K : Frag} {C x : Addr} {ox : Obj} {od : Option Obj}
theorem next_seq {it l : Addr} {i : Nat} {items : Array Value} {x : Value} {Q : Option Value → Shared → Prop} (hit : s.heap.IsListIter it l i) (hl : SeqAt s.heap l items) (hx : items[i]? = some x)
    (hQ : ∀ h', h'.IsListIter it l (i + 1) → Heap.SameBut it s.heap h' → Q (some x) { s with heap := h' }) : wpAny (model prog w) A (pyNext (.ref it)) Q E s := by
  refine @Mine.sqz _ ?zmain ?zfin
  case zmain =>
    obtain ⟨o, ho, hc, hd⟩ := id hit
    obtain ⟨ol, nl, hol, hdl⟩ := hl
    unfold pyNext
    refine wpAny_bind (wpAny_attempt (wpAny_callSpecial?_slot (name := Str.ofString "__next__") hit.typeIs slot_listiter_next (wpAny_call_entry slot_listiter_next hit.typeIs entry_listiter_next ?_ (args_listiter_next _))))
    show wpAny _ _ (field (.ref it) 0 >>= _) _ _ s
    refine wpAny_bind (wpAny_field ho hd (x := .ref l) rfl ?_)
    rw [if_neg (show ¬ ((Value.ref l == Value.none) = true) from Bool.false_ne_true)]
    refine wpAny_bind (wpAny_field ho hd (x := .int i 0) rfl ?_)
    refine wpAny_bind (wpAny_seqItems hol hdl ?_)
    simp only [Int.toNat_natCast, hx]
    refine wpAny_bind (wpAny_setField ho hd (by simp) (wpAny_pure ⟨x, rfl, wpAny_pure (hQ _ ?_ (Heap.SameBut.update ..))⟩))
    exact ⟨_, Heap.get?_update_self _ ho (Obj.isFreed_of_fields (Obj.data_mapFields hd _)), (Obj.cls_mapFields ..).trans hc, by
      rw [Obj.data_mapFields hd]; simp [rawInt]⟩
  case zfin => run_tac Mine.sq
theorem next_seq_end {it l : Addr} {i : Nat} {items : Array Value} {Q : Option Value → Shared → Prop} (hh : A.handled = none) (hit : s.heap.IsListIter it l i) (hl : SeqAt s.heap l items) (hx : items[i]? = none)
    (hQ : ∀ h', Heap.ExtBut it s.heap h' → Q none { s with heap := h' }) : wpAny (model prog w) A (pyNext (.ref it)) Q E s := by
  refine @Mine.sqz _ ?zmain ?zfin
  case zmain =>
    obtain ⟨o, ho, hc, hd⟩ := id hit
    obtain ⟨ol, nl, hol, hdl⟩ := hl
    unfold pyNext
    refine wpAny_bind (wpAny_attempt (wpAny_callSpecial?_slot (name := Str.ofString "__next__") hit.typeIs slot_listiter_next (wpAny_call_entry slot_listiter_next hit.typeIs entry_listiter_next ?_ (args_listiter_next _))))
    show wpAny _ _ (field (.ref it) 0 >>= _) _ _ s
    refine wpAny_bind (wpAny_field ho hd (x := .ref l) rfl ?_)
    rw [if_neg (show ¬ ((Value.ref l == Value.none) = true) from Bool.false_ne_true)]
    refine wpAny_bind (wpAny_field ho hd (x := .int i 0) rfl ?_)
    refine wpAny_bind (wpAny_seqItems hol hdl ?_)
    simp only [Int.toNat_natCast, hx]
    refine wpAny_bind (wpAny_rule (wpAny_bind (wpAny_setField ho hd (by simp) ?_)))
    show wpAny _ _ (newExc (.type "StopIteration") [] >>= _) _ _ _
    refine wpAny_bind ?_
    simp only [newExc, newTuple]
    refine wpAny_bind (wpAny_newObj_type ?_ (by size_fits))
    refine wpAny_bind (m := firstArgMember _ _) (wpAny_of_eq (a := Value.none) (by first | rfl | (simp only [firstArgMember]; rfl)) ?_)
    refine wpAny_newObj_type ?_ (by size_fits)
    simp only [raiseNew]
    refine wpAny_bind (wpAny_handled ?_)
    rw [show A.in1.handled = none from hh]
    refine wpAny_bind (wpAny_pure (wpAny_throw ?_))
    refine wpAny_bind (wpAny_isInstance (T := "StopIteration") (b := true) ⟨_, Heap.get?_push_size _ rfl, rfl⟩ isSubtype_stop ?_)
    exact wpAny_pure (hQ _ (((Heap.SameBut.update ..).extBut.push _).push _))
  case zfin => run_tac Mine.sq
theorem walksU_seq (hh : A.handled = none) (I ax : Addr) (hne : ax ≠ I) (items : Array Value) (Ts : Nat → Addr) (vals : Nat → Array Value)
    (hit : ∀ j, j < items.size → items[j]? = some (.ref (Ts j))) (hTI : ∀ j, j < items.size → Ts j ≠ I) :
    WalksU prog w A I (I :: ax :: (List.range items.size).map Ts) [I] items.size (fun j v => j < items.size ∧ v = vals j)
      (fun j h => h.IsListIter I ax j ∧ SeqAt h ax items ∧ ∀ k, k < items.size → h.IsTuple (Ts k) (vals k))
      (fun j T h => (j < items.size ∧ T = Ts j) ∧ h.IsListIter I ax (j + 1) ∧ SeqAt h ax items ∧ ∀ k, k < items.size → h.IsTuple (Ts k) (vals k)) where
  sub := fun b hb => by simp at hb; simp [hb]
  frame := fun _ _ _ st hk => ⟨st.1.at fun o e => hk I (by simp) o e, st.2.1.at fun o e => hk ax (by simp) o e,
    fun k hk' => (st.2.2 k hk').at fun o e => hk (Ts k) (List.mem_cons_of_mem _ (List.mem_cons_of_mem _ (List.mem_map.mpr ⟨k, List.mem_range.mpr hk', rfl⟩))) o e⟩
  item := fun i s Q E hi st hQ => by
    refine next_seq st.1 st.2.1 (x := .ref (Ts i)) (hit i hi) fun h' hit' hs' => ?_
    have tup : ∀ k, k < items.size → h'.IsTuple (Ts k) (vals k) := fun k hk' => (st.2.2 k hk').extBut hs'.extBut (hTI k hk')
    exact hQ (Ts i) (vals i) h' s.toks ⟨hi, rfl⟩ (tup i hi) ⟨⟨hi, rfl⟩, hit', st.2.1.at (fun o e => hs'.extBut _ _ hne e), tup⟩ fun b o hb e => hs'.extBut b o (fun h => hb (by simp [h])) e
  go := fun _ _ _ _ _ s Q _ hm hQ => wpAny_letOwnedTupleGo_listiter hm.2.1 (hQ s.heap hm.2 fun _ _ _ e => e)
  apart := fun j T _ hm hmem => by
    rcases List.mem_cons.mp hmem with e | e
    · exact hTI j hm.1.1 (hm.1.2 ▸ e)
    · cases e
  done := fun s Q E st hQ => next_seq_end hh st.1 st.2.1 (by simp) fun h' he' => hQ h' s.toks fun b o hb e => he' b o (fun h => hb (by simp [h])) e
  self := fun _ _ _ _ st hQ => wpAny_pyIter_listiter st.1 hQ
theorem pyIter_acc {Q : Value → Shared → Prop} (X : K.In s.heap) (I : W.InstAt s.heap x ox C od) (hf : findIn K (.ref C) "__iter__" = some (some (.builtin "list.__iter__"))) (hm : mroIn K C (.type "list") = some true)
    (hQ : Q (.ref s.heap.objs.size) { s with heap := s.heap.push { cls := .type "list_iterator", data := .fields #[.ref x, .int 0 0] } }) : wpAny (model prog w) A (pyIter (.ref x)) Q E s := by
  refine @Mine.sqz _ ?zmain ?zfin
  case zmain =>
    have hsp : ∀ {Q' : Option Value → Shared → Prop} {E'} {A'}, Q' (some (.builtin "list.__iter__")) s → wpAny (model prog w) A' (specialOf (.ref x) "__iter__") Q' E' s := fun q => wpAny_bind (I.type.here ((looks_findIn X hf).here q))
    unfold pyIter
    refine wpAny_bind (hsp ?_)
    show wpAny _ A (callSpecialIfBoundUnlessNone? (.ref x) "__iter__" _ >>= _) Q E s
    refine wpAny_bind ?_
    simp only [callSpecialIfBoundUnlessNone?, bindSpecialIfBound?]
    refine wpAny_holding (wpAny_bind (wpAny_bind (hsp ?_)))
    simp only [slot_list_iter.bind]
    refine wpAny_bind (wpAny_askSetting (wpAny_ite ?_))
    have hc : wpAny (model prog w) A (call (.builtin "list.__iter__") [.ref x]) (fun v s' => v = .ref s.heap.objs.size ∧ s' = { s with heap := s.heap.push { cls := .type "list_iterator", data := .fields #[.ref x, .int 0 0] } }) E s := by
      refine acc_call (owner := "list") (n := "__iter__") (by decide +kernel) (by decide +kernel) (by decide +kernel) entry_list_iter X I hm (args_list_iter _) ?_
      show wpAny _ _ (do ret (← newFields "list_iterator" [.ref x, rawInt 0])) _ _ s
      exact wpAny_bind (wpAny_newObj_type (wpAny_pure ⟨_, rfl, rfl, rfl⟩))
    have fin : wpAny (model prog w) A (call (.builtin "list.__iter__") [.ref x] >>= fun v => pure (some v)) (fun r s' => wpAny (model prog w) A (match r with
        | some it => (do
          match ← specialOf it "__next__" with
          | none => rule "iter.non-iterator"; raiseError "TypeError" s!"iter() returned non-iterator of type '{← typeNameOf it}'"
          | some _ => pure it)
        | none => (do
          match ← bindSpecialIfBound? (.ref x) "__getitem__" with
          | none => rule "iter.not-iterable"; raiseError "TypeError" s!"'{← typeNameOf (.ref x)}' object is not iterable"
          | some _ => rule "iter.getitem-fallback"; newFields "iterator" [.ref x, ← mkInt 0])) Q E s') E s := by
      refine wpAny_bind (wpAny_mono hc (fun v s' h' => ?_) fun _ _ h' => h')
      obtain ⟨rfl, rfl⟩ := h'
      refine wpAny_pure ?_
      have hT' : (⟨s.heap.push { cls := .type "list_iterator", data := .fields #[.ref x, .int 0 0] }, s.gens, s.drawn, s.toks, s.os⟩ : Shared).TypeIs (.ref s.heap.objs.size) "list_iterator" := ⟨_, Heap.get?_push_size _ rfl, rfl⟩
      exact wpAny_bind (wpAny_specialOf hT' slot_listiter_next.lookup (wpAny_pure hQ))
    split
    · exact wpAny_bind (wpAny_pure (wpAny_pure fin))
    · exact wpAny_tryCatch (wpAny_bind (wpAny_pure (wpAny_pure fin)))
  case zfin => run_tac Mine.sq
end
end Mine

theorem Mine.use_M16 : True := by
  w_top off
  run_tac Mine.use ["linesP", "linesZZ"]
  trivial
namespace Mine
theorem WalksS.imp' {prog : Program} {w : World} {A : Around} {I : Addr} {fp wr : List Addr} {G : Array GenState → Array GenState → Prop} {n : Nat} {P P' : Nat → Value → Prop} {St : Nat → Shared → Prop}
    (W : WalksS prog w A I fp wr G n P St) (h : ∀ i v, P i v → P' i v) : WalksS prog w A I fp wr G n P' St := W.imp h
/-- a generator that gives n values and keeps the ledger -/
noncomputable def GenN (prog : Program) (w : World) (A : Around) (a : Addr) (n : Nat) (F : Nat → Value → Prop) (h₀ : Heap) (L : Addr) (ledger : List (Addr × Obj)) (s : Shared) : Prop :=
  ∃ fp wr g St, WalksS prog w A.in4 a fp wr (GenOnlyQ g) n F St ∧ St 0 s ∧ (∀ i s', St i s' → s'.TypeIs (.ref a) "generator") ∧ a ∈ fp ∧ (∀ b ∈ fp, b < s.heap.objs.size) ∧ (∀ b ∈ wr, b ≠ L ∧ h₀.get? b = none ∧ ∀ p ∈ ledger, p.1 ≠ b)
theorem passing_all (n : Nat) : passing (fun _ => true) n 0 = List.range n := by
  unfold passing; simp
theorem moved_keep {h₀ : Heap} {L : Addr} {m : Str → Option Value} {news : List (Addr × Obj)} {s s' : Shared} {wr : List Addr} {G : Array GenState → Array GenState → Prop} (F : Fr h₀ L s.heap m) (N : News h₀ L s.heap news) (hm : Moved wr G s s')
    (hw : ∀ b ∈ wr, b ≠ L ∧ h₀.get? b = none ∧ ∀ p ∈ news, p.1 ≠ b) : Fr h₀ L s'.heap m ∧ News h₀ L s'.heap news :=
  ⟨⟨F.ns.at fun o e => hm.heap L o (fun hL => (hw _ hL).1 rfl) e, fun b o e => hm.heap b o (fun hb => by rw [(hw _ hb).2.1] at e; cases e) (F.keep b o e), F.above⟩,
    fun p hp => ⟨hm.heap _ _ (fun hb => (hw _ hb).2.2 p hp rfl) (N p hp).1, (N p hp).2⟩⟩
section
variable {prog : Program} {w : World} {A : Around} {E : Value → Shared → Prop} {s : Shared} {K : Frag} {h₀ : Heap} {L a c P C : Addr} {m mg mb : Str → Option Value} {news X T : List (Addr × Obj)} {p : Program} {loose : List Str} {mean : ExcName → Option Value}
theorem genexp_T {env : Env} {elt iter : Expr} {xa xb : Str} {pa pb pt : Pos} {kt : Nat} {scope : Scope} {cl : List (Str × Addr)} {pos : Pos} {Q : Value → Shared → Prop} {ox : Obj} {od : Option Obj} {items : Array Value} {n : Nat} {Ts : Nat → Addr} {va vb : Nat → Value} {Fv : Nat → Value → Prop}
    (F : Fr h₀ L s.heap m) (X₀ : K.In h₀) (N : News h₀ L s.heap news) (hs : Split T news X) (hX : ∀ p ∈ X, isTabE p.2 = false) (hT : Tabs T) (T0 : Top p loose mean mg mb h₀) (hC : CodeHd h₀ c P) (hcode : env.code = .ref c) (hge : env.globals = mainGlobals)
    (hP : (P, env.qual ++ "<genexpr>") ∈ tabList)
    (hh : A.handled = none) (hroom : A.depth < recursionLimit) (hco : scope.isCoroutine = false) (hclos : closureFor scope env = pure cl) (hcell : ∀ y ∈ scope.names, y.2 ≠ .cell) (h0 : scope.names.lookup (".0" : Str) = some NameKind.local)
    (hxa : scope.names.lookup xa = some .local) (hxb : scope.names.lookup xb = some .local) (hab : xa ≠ xb) (hkind : scope.kind = .function) (hfold : ∀ x, genFold iter env x = pure x)
    (hiter : ∀ {Q' : Value → Shared → Prop} {E'}, Q' (.ref a) s → wpAny (model prog w) A (eval iter env) Q' E' s)
    (I : W.InstAt s.heap a ox C od) (hf : findIn K (.ref C) "__iter__" = some (some (.builtin "list.__iter__"))) (hm : mroIn K C (.type "list") = some true) (hdx : ox.data = .seq items n)
    (hit : ∀ j, j < items.size → items[j]? = some (.ref (Ts j)) ∧ (Ts j, tupO [va j, vb j]) ∈ X)
    (helt : ∀ (A' : Around) E' i (u : Shared) m₂ C' code, A'.handled = none → A'.depth ≤ A.depth + 1 → A'.units ≤ A.units + 8 → i < items.size → Fr h₀ C' u.heap m₂ → m₂ xa = some (va i) → m₂ xb = some (vb i) →
      wpAny (model prog w) A' (eval elt (genEnv scope cl C' code builtinsNs env)) (fun y s₃ => Fv i y ∧ Keeps u s₃) E' u)
    (hQ : ∀ g T' s₅, Tabs T' → TabsLe T T' → Fr h₀ L s₅.heap m → News h₀ L s₅.heap (X ++ T') → (AllBare s.gens → AllBare s₅.gens) → s₅.os = s.os → s₅.drawn = s.drawn → GenN prog w A g items.size Fv h₀ L (X ++ T') s₅ → Q (.ref g) s₅) :
    wpAny (model prog w) A (eval (.GeneratorExp elt [⟨.Tuple [.Name xa pa, .Name xb pb] kt pt, iter, [], 0⟩] scope pos) env) Q E s := by
  refine @Mine.sqz _ ?zmain ?zfin
  case zmain =>
    obtain rfl := hs.eq
    have XK := X₀.keeps F.keep
    have hgs := T0.g.keeps F.keep
    have hlim := T0.nolimit.keeps F.keep
    obtain ⟨ps, hp⟩ := hT.tab _ hP
    have hmP := N (P, tabObj ps) (List.mem_append_right _ hp.mem)
    have hPlt := Heap.lt_size hmP.1
    have halt := Heap.lt_size I.at_
    have hTlt : ∀ j, j < items.size → Ts j < s.heap.objs.size := fun j hj => Heap.lt_size (N _ (List.mem_append_left _ (hit j hj).2)).1
    have hPa : a ≠ P := fun e => by
      have e1 := I.at_
      rw [e, hmP.1] at e1
      rw [← Option.some.inj e1] at hdx
      cases hdx
    have hPT : ∀ j, j < items.size → Ts j ≠ P := fun j hj e => by
      have e1 := hX _ (hit j hj).2
      have e2 := (N _ (List.mem_append_left _ (hit j hj).2)).1
      rw [show (Ts j, tupO [va j, vb j]).1 = P from e, hmP.1] at e2
      rw [← Option.some.inj e2] at e1
      cases e1
    refine wpAny_GeneratorExp_walksQTD hh hco hclos hcell h0 hxa hxb hab hkind hroom (hiter (pyIter_acc XK I hf hm ⟨hlim.push _, ?_⟩)) hfold
    -- the state behind iter()
    have F₂ : Fr h₀ L (s.heap.push { cls := .type "list_iterator", data := .fields #[.ref a, .int 0 0] }) m := F.push _
    have N₂ : News h₀ L (s.heap.push { cls := .type "list_iterator", data := .fields #[.ref a, .int 0 0] }) (X ++ T) := fun p hp => ⟨Heap.get?_push_of_some _ (N p hp).1, (N p hp).2⟩
    obtain ⟨bm, ob, b1, b2, b3, b4, b5, b6⟩ := T0.bmain
    have hbP : bm ≠ P := fun q => by
      have e := F.keep _ _ b3
      rw [q, hmP.1] at e; cases e; cases b4
    have hgP : mainGlobals ≠ P := fun q => by
      obtain ⟨o, es, ep, e, hd, _⟩ := hgs
      rw [q, hmP.1] at e; cases e; cases hd
    -- what is common to a code that is made and one that is found
    have fin : ∀ (T' : List (Addr × Obj)) (h₃ : Heap) (tk₃ : Nat) (code : Value), Tabs T' → TabsLe T T' → Fr h₀ L h₃ m → News h₀ L h₃ (X ++ T') → Heap.ExtBut P (s.heap.push { cls := .type "list_iterator", data := .fields #[.ref a, .int 0 0] }) h₃ → s.heap.objs.size + 1 ≤ h₃.objs.size →
        (∀ p ∈ T', p.1 ≠ s.heap.objs.size) →
        wpAny (model prog w) A (builtinsFor env.globals env.builtins) (fun bi s₄ =>
          ∃ I fp wr n₀ Pt St₀ Mid pz F, Value.ref s.heap.objs.size = .ref I ∧ (∀ A' : Around, A'.handled = none → WalksU prog w A' I fp wr n₀ Pt St₀ Mid) ∧ (∀ i vals, Pt i vals → ∃ va vb, vals = #[va, vb]) ∧ St₀ 0 s₄.heap ∧ (∀ b ∈ fp, b < s₄.heap.objs.size) ∧ s₄.heap.NoLimit ∧ cStatics ∉ wr ∧
            (∀ href : Heap, (∀ b o, s₄.heap.get? b = some o → href.get? b = some o) →
              QuietGenTD prog w (genEnv scope cl s₄.heap.objs.size code bi env) xa xb [] elt (List.range s₄.heap.objs.size) wr Pt pz F href (A.depth + 1) (A.units + 8)) ∧
            (∀ a h₅ tk gs, gs.bare = true → s₄.heap.objs.size < a → h₅.objs.size = a + 1 → (∀ b o, s₄.heap.get? b = some o → h₅.get? b = some o) →
              WalksS prog w A.in4 a (a :: s₄.heap.objs.size :: List.range s₄.heap.objs.size) (s₄.heap.objs.size :: wr) (GenOnlyQ s₄.gens.size) (passing pz n₀ 0).length
                (fun j y => ∃ i, (passing pz n₀ 0)[j]? = some i ∧ F i y) (GenAt prog w A.in4 a s₄.gens.size s₄.heap.objs.size (List.range s₄.heap.objs.size) wr pz n₀ F) →
              GenAt prog w A.in4 a s₄.gens.size s₄.heap.objs.size (List.range s₄.heap.objs.size) wr pz n₀ F 0 { s₄ with gens := s₄.gens.push gs, toks := tk, heap := h₅ } →
              Q (.ref a) { s₄ with gens := s₄.gens.push gs, toks := tk, heap := h₅ })) E { s with heap := h₃, toks := tk₃ } := by
      intro T' h₃ tk₃ code hT' hle F₃ N₃ hx₃ hsz₃ hfr
      rw [hge]
      have hLs : L < s.heap.objs.size := F.ns.lt
      have hlt3 : s.heap.objs.size < h₃.objs.size := hsz₃
      have keep : ∀ b o, b ≠ P → s.heap.get? b = some o → h₃.get? b = some o := fun b o hb e => hx₃ b o hb (Heap.get?_push_of_some _ e)
      refine wpAny_builtinsFor (T0.g.keeps F₃.keep) b1 b2 (F₃.keep _ _ b3) b4 b5 b6 ?_
      refine ⟨s.heap.objs.size, _, _, items.size, _, _, _, fun _ => true, Fv, rfl, fun A' hA => walksU_seq hA s.heap.objs.size a (Nat.ne_of_lt halt) items Ts (fun j => #[va j, vb j]) (fun j hj => (hit j hj).1) (fun j hj => Nat.ne_of_lt (hTlt j hj)), (fun i vals hv => ⟨_, _, hv.2⟩),
        ⟨?_, ?_, ?_⟩, ?_, T0.nolimit.keeps F₃.keep, ?_, fun href hhref => ⟨?_, ?_⟩, fun g h₅ tk gs hgb hag hsz₅ hk₅ Wg hat => ?_⟩
      · exact ⟨_, hx₃ _ _ (Nat.ne_of_gt hPlt) (Heap.get?_push_size _ rfl), rfl, rfl⟩
      · exact ⟨ox, n, keep _ _ hPa I.at_, hdx⟩
      · exact fun k hk => ⟨_, keep _ _ (hPT k hk) (N _ (List.mem_append_left _ (hit k hk).2)).1, rfl, _, rfl⟩
      · intro b hb
        show b < h₃.objs.size
        rcases List.mem_cons.mp hb with rfl | hb
        · exact hlt3
        · rcases List.mem_cons.mp hb with rfl | hb
          · exact Nat.lt_trans halt hlt3
          · obtain ⟨j, hj, rfl⟩ := List.mem_map.mp hb
            exact Nat.lt_trans (hTlt j (List.mem_range.mp hj)) hlt3
      · intro hb
        rcases List.mem_cons.mp hb with e | hb
        · have : cStatics < s.heap.objs.size := let ⟨_, hn, _⟩ := hlim; hn.lt
          exact absurd (e ▸ this) (Nat.lt_irrefl _)
        · cases hb
      · intro A' E' i v1 v2 u m₂ hA hD hU hPt hn h1 h2 hkp
        show wpAny _ _ (pure true) _ _ _
        exact wpAny_pure ⟨rfl, u.heap, u.toks, rfl, fun _ _ e => e⟩
      · intro A' E' i v1 v2 u m₂ hA hD hU hPt hp' hn h1 h2 hkp
        obtain ⟨hi, hv⟩ := hPt
        have hv' := congrArg Array.toList hv
        simp only [List.cons.injEq, and_true] at hv'
        obtain ⟨rfl, rfl⟩ := hv'
        refine helt A' E' i u m₂ _ code hA hD hU hi ⟨hn, fun b o e => ?_, Nat.le_trans F₃.above (Nat.le_of_lt (Nat.lt_trans hLs hlt3))⟩ h1 h2
        have e3 := F₃.keep b o e
        refine hkp b (List.mem_range.mpr (Heap.lt_size e3)) (fun hb => ?_) o (hhref b o e3)
        rcases List.mem_cons.mp hb with rfl | hb
        · exact absurd (Heap.lt_size (F.keep _ o e)) (Nat.lt_irrefl _)
        · cases hb
      · rw [passing_all, List.length_range] at Wg
        refine hQ g T' _ hT' hle (F₃.keeps hk₅) (fun p hp => ⟨hk₅ _ _ (N₃ p hp).1, (N₃ p hp).2⟩) (fun hb => hb.push hgb) rfl rfl ⟨_, _, _, _, Wg.imp (fun j y hy => ?_), hat, (fun i s' st => st.1.typeIs), List.mem_cons_self, ?_, ?_⟩
        · obtain ⟨i, hi, hF⟩ := hy
          rw [List.getElem?_eq_some_iff] at hi
          obtain ⟨hj, rfl⟩ := hi
          simpa using hF
        · intro b hb
          show b < h₅.objs.size
          rw [hsz₅]
          rcases List.mem_cons.mp hb with rfl | hb
          · exact Nat.lt_succ_self _
          · rcases List.mem_cons.mp hb with rfl | hb
            · exact Nat.lt_succ_of_lt hag
            · exact Nat.lt_succ_of_lt (Nat.lt_trans (List.mem_range.mp hb) hag)
        · intro b hb
          rcases List.mem_cons.mp hb with rfl | hb
          · exact ⟨Nat.ne_of_gt (Nat.lt_trans hLs hlt3), Heap.get?_none_of_le (Nat.le_trans F.above (Nat.le_of_lt (Nat.lt_trans hLs hlt3))), fun p hp => Nat.ne_of_lt (Heap.lt_size (N₃ p hp).1)⟩
          · rcases List.mem_cons.mp hb with rfl | hb
            · refine ⟨Nat.ne_of_gt hLs, Heap.get?_none_of_le (Nat.le_trans F.above (Nat.le_of_lt hLs)), fun p hp => ?_⟩
              rcases List.mem_append.mp hp with hp | hp
              · exact Nat.ne_of_lt (Heap.lt_size (N p (List.mem_append_left _ hp)).1)
              · exact hfr p hp
            · cases hb
    cases hfd : codeAmong pos ps.toList with
    | none =>
      refine wpAny_genexprCodeX hcode ((hC.keeps F₂.keep).code (N₂ _ (List.mem_append_right _ hp.mem)).1 hp.ok) ((hC.keeps F₂.keep).tab (N₂ _ (List.mem_append_right _ hp.mem)).1) hfd fun c' h₃ tk₃ hx₃ hge₃ hlt₃ _ hrec htab₃ _ => ?_
      obtain ⟨c₂, oc, vs, t, e2, hoc, hd, hv⟩ := hrec
      cases e2
      have hge4 : s.heap.objs.size + 1 ≤ c' := by
        have := hge₃
        rw [Heap.size_push] at this
        exact this
      have hap : ∀ q ∈ tabList, c' ≠ q.1 := fun q hq e => by
        obtain ⟨ps2, h2⟩ := hT.tab q hq
        have e3 := Heap.lt_size (N _ (List.mem_append_right X h2.mem)).1
        have e4 : q.1 < s.heap.objs.size := e3
        rw [← e] at e4
        exact absurd (Nat.lt_of_lt_of_le e4 (Nat.le_of_succ_le hge4)) (Nat.lt_irrefl _)
      have hG := tabs_grow (pos := pos) (c' := c') (oc := oc) N (fun p hp => List.mem_append_right _ hp) hT hP hp hap ⟨vs, t, hd, hv⟩
      obtain ⟨F', N'⟩ := grow_news (s := { s with heap := s.heap.push { cls := .type "list_iterator", data := .fields #[.ref a, .int 0 0] } }) F₂ N₂ hX hp.mem hx₃ hge₃ hoc htab₃.2
      refine fin _ h₃ tk₃ _ hG (tabs_le hP) F' N' hx₃ (Nat.le_of_lt (Nat.lt_of_le_of_lt hge4 hlt₃)) (fun p hp2 => ?_)
      rcases List.mem_cons.mp hp2 with rfl | hp2
      · exact Nat.ne_of_lt hPlt
      · rcases List.mem_cons.mp hp2 with rfl | hp2
        · exact Nat.ne_of_gt hge4
        · exact Nat.ne_of_lt (Heap.lt_size (N p (List.mem_append_right _ (List.mem_filter.mp hp2).1)).1)
    | some cv =>
      refine wpAny_genexprCode_hit hcode ((hC.keeps F₂.keep).code (N₂ _ (List.mem_append_right _ hp.mem)).1 hp.ok) hfd ?_
      exact fin T _ s.toks _ hT .refl F₂ N₂ (fun _ _ _ e => e) (by rw [Heap.size_push]; exact Nat.le_refl _) (fun p hp2 => Nat.ne_of_lt (Heap.lt_size (N p (List.mem_append_right _ hp2)).1))
  case zfin => run_tac Mine.sq
end
end Mine

theorem Mine.use_M17 : True := by
  w_top off
  run_tac Mine.use ["linesP", "linesZZ"]
  trivial
namespace Mine
section
variable {prog : Program} {w : World} {A : Around} {E : Value → Shared → Prop} {s : Shared} {h₀ : Heap} {L g : Addr} {m : Str → Option Value} {ledger : List (Addr × Obj)} {I : Addr} {fp wr : List Addr} {G : Array GenState → Array GenState → Prop} {n : Nat} {P : Nat → Value → Prop} {St : Nat → Shared → Prop}
theorem GenN.toks {a n : Nat} {Fv : Nat → Value → Prop} {tk : Nat} (X : GenN prog w A a n Fv h₀ L ledger s) (h : s.toks ≤ tk) : GenN prog w A a n Fv h₀ L ledger { s with toks := tk } := by
  obtain ⟨fp, wr, g, St, W, a1, a2, a3, a4, a5⟩ := X
  exact ⟨fp, wr, g, St, W, W.frame 0 s s.heap tk a1 h fun _ _ _ e => e, a2, a3, a4, a5⟩
noncomputable def shP (P : Nat → Value → Prop) : Nat → Value → Prop | 0, _ => False | i + 1, v => P i v
noncomputable def shS (St : Nat → Shared → Prop) : Nat → Shared → Prop | 0, _ => False | i + 1, s => St i s
noncomputable def shV (z : Int) (val : Nat → Int) : Nat → Int | 0 => z | i + 1 => val i
theorem walks_shift (W : WalksS prog w A I fp wr G n P St) : WalksS prog w A I fp wr G (n + 1) (shP P) (shS St) where
  sub := W.sub
  grefl := W.grefl
  gtrans := W.gtrans
  frame := fun i s h' tk st hk k => by
    cases i with
    | zero => exact st.elim
    | succ i => exact W.frame i s h' tk st hk k
  item := fun i s Q E hi st hQ => by
    cases i with
    | zero => exact st.elim
    | succ i => exact W.item i s Q E (Nat.lt_of_succ_lt_succ hi) st hQ
  done := fun s Q E st hQ => W.done s Q E st hQ
  self := fun i s Q E st hQ => by
    cases i with
    | zero => exact st.elim
    | succ i => exact W.self i s Q E st hQ
theorem preSum_shift (z : Int) (val : Nat → Int) : ∀ j, preSum (shV z val) (j + 1) = z + preSum val j
  | 0 => by simp [preSum, shV]
  | j + 1 => by
    rw [show preSum (shV z val) (j + 1 + 1) = preSum (shV z val) (j + 1) + shV z val (j + 1) from rfl, preSum_shift z val j]
    show z + preSum val j + val j = z + (preSum val j + val j)
    omega
theorem args_sum2 (a b : Value) : argsOk "sum" ⟨[a, b], []⟩ := by unfold argsOk; kernel_rfl
theorem call_sum2 {Fv : Nat → Value → Prop} {Q : Value → Shared → Prop} {z : Int} {zt : Tok} (X : GenN prog w A g n Fv h₀ L ledger s) (F : Fr h₀ L s.heap m) (N : News h₀ L s.heap ledger) (hz : z = 0 ∨ z = 3)
    (val : Nat → Int) (hval : ∀ j v, Fv j v → ∃ t, v = .int (val j) t) (hfit : ∀ j, j < n → InLong (val j) ∧ InLong (z + preSum val (j + 1)))
    (hQ : ∀ s' t', Fr h₀ L s'.heap m → News h₀ L s'.heap ledger → (AllBare s.gens → AllBare s'.gens) → s'.os = s.os → s'.drawn = s.drawn → Q (.int (z + preSum val n) t') s') : wpAny (model prog w) A (call (.builtin "sum") [.ref g, .int z zt]) Q E s := by
  refine @Mine.sqz _ ?zmain ?zfin
  case zmain =>
    obtain ⟨fp, wr, gg, St, W, hst, hT, ha, hfp, hwr⟩ := X
    have W := W.in4_1
    have hzl : InLong z := by rcases hz with rfl | rfl <;> exact ⟨by decide, by decide⟩
    refine call_function_tree PySem.F.kind_sum PySem.F.plain_sum PySem.F.entry_sum (args_sum2 _ _) ?_
    unfold Builtin.«sum»
    simp only [List.length_cons, List.length_nil]
    rw [if_neg (by decide)]
    refine wpAny_bind (wpAny_of_eq (show Builtin.Builtins.bindParams "sum" ["start"] 0 ⟨[.int z zt], []⟩ = pure [some (.int z zt)] from rfl) ?_)
    refine wpAny_bind (W.self 0 _ _ _ hst ?_)
    dsimp only
    have tail : ∀ (s₂ : Shared) tA, s₂.heap = s.heap → s₂.gens = s.gens → s₂.os = s.os → s₂.drawn = s.drawn → s.toks ≤ s₂.toks → wpAny (model prog w) A.in1 (do
        for (ty, what, hint) in [("str", "strings", "''"), ("bytes", "bytes", "b''"), ("bytearray", "bytearray", "b''")] do
          if ← isInstance (.int z tA) (.type ty) then
            rule "sum.start-refused"; raiseError "TypeError" s!"sum() can't sum {what} [use {hint}.join(seq) instead]"
        again (.builtin "sum.loop" ⟨[.ref g, ← newList [.int z tA], rawInt 0, rawInt 0], []⟩)) (fun fin s' => match fin with | .done f => (match (.ok f : Result) with | .ok (.ret v) => Q v s' | .ok _ => False | .error e => E e s') | .again c' => c'.quiet = true ∧ codeAny (model prog w) A c' (fun r s' => match r with | .ok (.ret v) => Q v s' | .ok _ => False | .error e => E e s') s') (fun e s' => E e s') s₂ := by
      intro s₂ tA e1 e2 e3 e4 e5
      obtain ⟨hp, g2, d2, tk2, os2⟩ := s₂
      obtain ⟨hp1, g1, d1, tk1, os1⟩ := s
      dsimp only at e1 e2 e3 e4 e5
      subst e1 e2 e3 e4
      simp only [List.forIn_cons, List.forIn_nil]
      refine wpAny_bind (wpAny_bind (wpAny_bind (wpAny_isInstance (T := "int") (b := false) (typeIs_int _ _ _) PySem.sub_int_str ?_)))
      simp only [Bool.false_eq_true, if_false]
      refine wpAny_pure (wpAny_bind (wpAny_bind (wpAny_isInstance (T := "int") (b := false) (typeIs_int _ _ _) PySem.sub_int_bytes ?_)))
      simp only [Bool.false_eq_true, if_false]
      refine wpAny_pure (wpAny_bind (wpAny_bind (wpAny_isInstance (T := "int") (b := false) (typeIs_int _ _ _) PySem.sub_int_bytearray ?_)))
      simp only [Bool.false_eq_true, if_false]
      refine wpAny_pure (wpAny_pure ?_)
      refine wpAny_bind (wpAny_newObj_type ?_)
      have hSf : hp.objs.size ∉ fp := fun hm => Nat.lt_irrefl _ (hfp _ hm)
      refine wpAny_pure ⟨plainId_quiet PySem.F.plain_sum_loop _, codeAny_sum_loopS (walks_shift W) (shV z val) (fun i v hv => ?_) (fun j hj => ?_) hp.objs.size hSf n 1 _ tA 0 (by omega) (by omega)
        (W.frame 0 ⟨hp, g2, d2, tk1, os2⟩ _ _ hst (by first | exact e5 | exact Nat.le_refl _ | exact Nat.le_succ _ | omega) fun b _ o e => Heap.get?_push_of_some _ e) ?_ fun s' t' hm => ?_⟩
      · cases i with
        | zero => exact hv.elim
        | succ i => exact hval i v hv
      · rw [preSum_shift]
        cases j with
        | zero => exact ⟨hzl, by simpa [preSum] using hzl⟩
        | succ j => exact ⟨(hfit j (Nat.lt_of_succ_lt_succ hj)).1, (hfit j (Nat.lt_of_succ_lt_succ hj)).2⟩
      · rw [preSum_shift]
        rw [show z + preSum val 0 = z from Int.add_zero z]
        exact Heap.get?_push_size _ rfl
      · rw [preSum_shift]
        have hm' : Moved wr (GenOnlyQ gg) ⟨hp, g2, d2, tk1, os2⟩ s' := Moved.drop_new (s₂ := ⟨hp, g2, d2, tk1, os2⟩) hm (by first | exact e5 | exact Nat.le_refl _ | exact Nat.le_succ _ | omega)
        obtain ⟨F', N'⟩ := moved_keep F N hm' hwr
        exact hQ s' t' F' N' (fun hb => hb.movedS hm') hm'.os hm'.drawn
    rcases hz with rfl | rfl
    · rw [if_pos (by decide)]
      refine wpAny_bind (wpAny_rule ?_)
      refine wpAny_bind (wpAny_mkInt ?_)
      exact wpAny_bind (wpAny_pure (tail _ _ rfl rfl rfl rfl (by first | exact Nat.le_refl _ | exact Nat.le_succ _)))
    · rw [if_pos (by decide)]
      refine wpAny_bind (wpAny_rule ?_)
      refine wpAny_bind (wpAny_mkInt ?_)
      exact wpAny_bind (wpAny_pure (tail _ _ rfl rfl rfl rfl (by first | exact Nat.le_refl _ | exact Nat.le_succ _)))
  case zfin => run_tac Mine.sq
theorem join_gen {Fv : Nat → Value → Prop} {Q : Value → Shared → Prop} {x : Str} {t : Tok} {tx : Nat → Str} (X : GenN prog w A g n Fv h₀ L ledger s) (F : Fr h₀ L s.heap m) (N : News h₀ L s.heap ledger)
    (htx : ∀ j v, Fv j v → ∃ u, v = .str (tx j) u) (hok : JoinOk x ((List.range n).map tx) = true)
    (hQ : ∀ s' t', Fr h₀ L s'.heap m → News h₀ L s'.heap ledger → (AllBare s.gens → AllBare s'.gens) → s'.os = s.os → s'.drawn = s.drawn → Q (.str (Txt.join x ((List.range n).map tx)) t') s')
    (hsz : n ≤ sizeLine) : wpAny (model prog w) A (call (.builtin "str.join") [.str x t, .ref g]) Q E s := by
  refine @Mine.sqz _ ?zmain ?zfin
  case zmain =>
    obtain ⟨fp, wr, gg, St, W, hst, hT, ha, hfp, hwr⟩ := X
    have W := W.in4_2
    refine SC.joinGen W hT hst hfp ha (fun j v hv => let ⟨u, e⟩ := htx j v hv; ⟨_, u, e⟩) (fun s' lt hm hacc => ?_) hsz
    have hl : lt.map (·.1) = (List.range n).map tx := by
      apply List.ext_getElem?
      intro j
      have hsz : lt.length = n := by simpa [strValues] using hacc.1
      by_cases hj : j < n
      · have hj' : j < lt.length := hsz ▸ hj
        obtain ⟨u, hv⟩ := htx j _ (hacc.2 j (.str lt[j].1 lt[j].2) (by simp [strValues, List.getElem?_eq_getElem hj']))
        injection hv with h1 _
        simp [List.getElem?_eq_getElem hj', hj, h1]
      · rw [List.getElem?_eq_none (by simpa [hsz] using Nat.le_of_not_lt hj), List.getElem?_eq_none (by simpa using Nat.le_of_not_lt hj)]
    rw [hl]
    obtain ⟨F', N'⟩ := moved_keep F N hm hwr
    have hg : AllBare s.gens → AllBare s'.gens := fun hb => hb.movedS hm
    exact ⟨hok, fun t' k => hQ { s' with toks := k } t' F' N' hg hm.os hm.drawn⟩
  case zfin => run_tac Mine.sq
end
end Mine

theorem Mine.use_M18 : True := by
  w_top off
  run_tac Mine.use ["linesP", "linesZZ"]
  trivial
namespace Mine
open Builtin.ObjectAttr Builtin.Getset_descriptor
theorem args_list_ga (a b : Value) : argsOk "list.__getattribute__" ⟨[a, b], []⟩ := by unfold argsOk; kernel_rfl
section
variable {prog : Program} {w : World} {A : Around} {E : Value → Shared → Prop} {s : Shared} {K : Frag} {C x : Addr} {ox : Obj} {od : Option Obj} {name : Str} {expr : Bool}
theorem acc_getV {v : Value} {Q : Value → Shared → Prop} (X : K.In s.heap) (I : W.InstAt s.heap x ox C od) (hga : findIn K (.ref C) "__getattribute__" = some (some (.builtin "list.__getattribute__"))) (hk : findIn K (.ref C) "__getattr__" = some none) (hm : mroIn K C (.type "list") = some true)
    (hf : findObj K C od name = some (.value v)) (hh : handedIn v = true) (h : Q v { s with toks := s.toks + 1 }) : wpAny (model prog w) A (getAttr (.ref x) name expr) Q E s := by
  refine @Mine.sqz _ ?zmain ?zfin
  case zmain =>
    obtain ⟨hp, g, d, t, os⟩ := s
    have L0 := I.type (M := model prog w)
    have L1 := looks_find (M := model prog w) X I hf
    unfold getAttr getAttrBy
    refine wpAny_bind (wpAny_mkText (wpAny_holding (wpAny_bind (L0.at (wpAny_bind ((looks_findIn X hga).at ?_))))))
    dsimp only
    rw [if_neg (by simp)]
    unfold getAttrByItsOwn hookBefore callGetattribute boundAndCalled
    rw [if_pos (show onTheHeap (.ref C) = true from rfl)]
    refine wpAny_bind ((looks_findIn X hk).at (wpAny_bind (wpAny_attempt (wpAny_holding ?_))))
    rw [if_neg (by simp [onTheHeap])]
    refine wpAny_bind (wpAny_of_eq (PySem.F.slot_list_getattribute.bind _) ?_)
    refine acc_call (owner := "list") (n := "__getattribute__") (by decide +kernel) (by decide +kernel) (by decide +kernel) PySem.F.entry_list_ga X I hm (args_list_ga _ _) ?_
    unfold Builtin.«object.__getattribute__»
    refine wpAny_bind (wpAny_pure ?_)
    refine wpAny_bind (wpAny_pure ?_)
    refine wpAny_bind (L0.at (wpAny_bind (L1.at ?_)))
    refine wpAny_pure ⟨_, rfl, ?_⟩
    show wpAny _ _ (handedOut v) _ _ _
    rw [handedOut_of hh]; exact wpAny_pure h
  case zfin => run_tac Mine.sq
theorem acc_get {h₀ : Heap} {L : Addr} {m : Str → Option Value} {attr : Option Value} {es : List DictEntry} {n : Nat} {v : Value} {Q : Value → Shared → Prop} (F : Fr h₀ L s.heap m) (X₀ : K.In h₀) (I : W.InstAt s.heap x ox C (some (dictOf es n))) (hga : findIn K (.ref C) "__getattribute__" = some (some (.builtin "list.__getattribute__"))) (hk : findIn K (.ref C) "__getattr__" = some none) (hm : mroIn K C (.type "list") = some true)
    (hh : hasDictIn K C = true) (ha : findIn K (.ref C) name = some attr) (hn : noGet K attr = true) (hl : getL name es = some (some v)) (hv : handedIn v = true) (h : Q v { s with toks := s.toks + 1 }) : wpAny (model prog w) A (getAttr (.ref x) name expr) Q E s :=
  acc_getV (X₀.keeps F.keep) I hga hk hm (findObj_own hh ha hn hl) hv h
end
end Mine

theorem Mine.use_M19 : True := by
  w_top off
  run_tac Mine.use ["linesP", "linesZZ"]
  trivial
namespace Mine
section
variable {M : Model} {A : Around} {E : Value → Shared → Prop} {s : Shared} {K : Frag} {h₀ : Heap} {L : Addr} {m mg mb : Str → Option Value} {scope : Scope} {cl : List (Str × Addr)} {code : Value} {env : Env} {p : Program} {loose : List Str} {mean : ExcName → Option Value}
theorem ldG {x : Str} {pos : Pos} {v : Value} {Q : Value → Shared → Prop} (F : Fr h₀ L s.heap m) (hv : m x = some v) (h : Q v s) (hk : scope.kind = .function) (hl : scope.names.lookup x = some .local) (hd : (x == ("__debug__" : Str)) = false) :
    wpAny M A (eval (.Name x pos) (genEnv scope cl L code builtinsNs env)) Q E s := wpAny_Name (wpAny_loadName_local (env := genEnv scope cl L code builtinsNs env) hk hl F.ns hv h) hd
theorem nameBG {x : Str} {pos : Pos} {v : Value} {Q : Value → Shared → Prop} (F : Fr h₀ L s.heap m) (X : K.In h₀) (T : Top p loose mean mg mb h₀) (hg : env.globals = mainGlobals) (e : nsIn K mainGlobals x = some none) (hv : bootBuiltins x = some v) (hn : x ≠ "__name__") (h : Q v s)
    (hk : scope.kind = .function) (hl : scope.names.lookup x = some .globalImplicit) (hd : (x == ("__debug__" : Str)) = false) :
    wpAny M A (eval (.Name x pos) (genEnv scope cl L code builtinsNs env)) Q E s := by
  refine @Mine.sqz _ ?zmain ?zfin
  case zmain =>
    refine wpAny_Name (ks_loadName_global hk hl (loadGlobal_builtin (env := genEnv scope cl L code builtinsNs env) (show s.heap.Ns env.globals mg from hg ▸ T.g.keeps F.keep) (mg_none_of X T.g e) (T.b.keeps F.keep) ((T.builtins x hn).trans hv) h)) hd
  case zfin => run_tac Mine.sq
theorem nameKG {x : Str} {pos : Pos} {v : Value} {Q : Value → Shared → Prop} (F : Fr h₀ L s.heap m) (X : K.In h₀) (T : Top p loose mean mg mb h₀) (hg : env.globals = mainGlobals) (e : nsIn K mainGlobals x = some (some v)) (h : Q v s)
    (hk : scope.kind = .function) (hl : scope.names.lookup x = some .globalImplicit) (hd : (x == ("__debug__" : Str)) = false) :
    wpAny M A (eval (.Name x pos) (genEnv scope cl L code builtinsNs env)) Q E s := by
  refine wpAny_Name (ks_loadName_global hk hl (loadGlobal_global (env := genEnv scope cl L code builtinsNs env) (show s.heap.Ns env.globals mg from hg ▸ T.g.keeps F.keep) (mg_of X T.g e) h)) hd
end
/-- what an accumulator holds: pairs of texts -/
noncomputable def AccIs (E : List (Addr × Obj)) (items : Array Value) (ps : List (Str × Str)) : Prop := items.size = ps.length ∧ ∀ (i : Nat) p, ps[i]? = some p → ∃ t tb tg, items[i]? = some (.ref t) ∧ (t, tupO [.str p.1 tb, .str p.2 tg]) ∈ E
theorem AccIs.mono {E E' : List (Addr × Obj)} {items : Array Value} {ps : List (Str × Str)} (h : AccIs E items ps) (k : ∀ p ∈ E, p ∈ E') : AccIs E' items ps := ⟨h.1, fun i p e => let ⟨t, tb, tg, a, b⟩ := h.2 i p e; ⟨t, tb, tg, a, k _ b⟩⟩
theorem AccIs.push {E : List (Addr × Obj)} {items : Array Value} {ps : List (Str × Str)} {t : Addr} {b g : Str} {tb tg : Tok} (h : AccIs E items ps) (hm : (t, tupO [.str b tb, .str g tg]) ∈ E) : AccIs E (items.push (.ref t)) (ps ++ [(b, g)]) := by
  refine @Mine.sqz _ ?zmain ?zfin
  case zmain =>
    refine ⟨by simp [h.1], fun i p e => ?_⟩
    by_cases hi : i < ps.length
    · rw [List.getElem?_append_left hi] at e
      obtain ⟨t', tb', tg', a, b'⟩ := h.2 i p e
      exact ⟨t', tb', tg', by rw [Array.getElem?_push, if_neg (by rw [h.1]; omega)]; exact a, b'⟩
    · rw [List.getElem?_append_right (Nat.le_of_not_lt hi)] at e
      have h0 : i - ps.length = 0 := by
        rcases Nat.eq_zero_or_pos (i - ps.length) with h0 | h0
        · exact h0
        · rw [List.getElem?_eq_none (show [(b, g)].length ≤ i - ps.length from h0)] at e; cases e
      rw [h0] at e
      cases e
      exact ⟨t, tb, tg, by rw [Array.getElem?_push, if_pos (by rw [h.1]; omega)], hm⟩
  case zfin => run_tac Mine.sq
noncomputable abbrev fstOf (ps : List (Str × Str)) (i : Nat) : Str := (ps.getD i ("", "")).1
noncomputable abbrev sndOf (ps : List (Str × Str)) (i : Nat) : Str := (ps.getD i ("", "")).2
theorem AccIs.pick {E : List (Addr × Obj)} {items : Array Value} {ps : List (Str × Str)} (h : AccIs E items ps) : ∃ (Ts : Nat → Addr) (va vb : Nat → Value), (∀ j, j < items.size → items[j]? = some (.ref (Ts j)) ∧ (Ts j, tupO [va j, vb j]) ∈ E) ∧ (∀ j, j < items.size → (∃ t, va j = .str (fstOf ps j) t) ∧ ∃ t, vb j = .str (sndOf ps j) t) := by
  refine @Mine.sqz _ ?zmain ?zfin
  case zmain =>
    have hx : ∀ j, ∃ r : Addr × Tok × Tok, j < items.size → items[j]? = some (.ref r.1) ∧ (r.1, tupO [.str (fstOf ps j) r.2.1, .str (sndOf ps j) r.2.2]) ∈ E := fun j => by
      by_cases hj : j < items.size
      · obtain ⟨t, tb, tg, a, b⟩ := h.2 j _ (List.getElem?_eq_getElem (h.1 ▸ hj))
        refine ⟨(t, tb, tg), fun _ => ⟨a, ?_⟩⟩
        have e : ps.getD j ("", "") = ps[j]'(h.1 ▸ hj) := by rw [List.getD_eq_getElem?_getD, List.getElem?_eq_getElem (h.1 ▸ hj)]; rfl
        show (t, tupO [.str (ps.getD j ("", "")).1 tb, .str (ps.getD j ("", "")).2 tg]) ∈ E
        rw [e]; exact b
      · exact ⟨default, fun h => absurd h hj⟩
    exact ⟨fun j => (Classical.choose (hx j)).1, fun j => .str (fstOf ps j) (Classical.choose (hx j)).2.1, fun j => .str (sndOf ps j) (Classical.choose (hx j)).2.2, fun j hj => Classical.choose_spec (hx j) hj, fun j _ => ⟨⟨_, rfl⟩, _, rfl⟩⟩
  case zfin => run_tac Mine.sq
/-- how much an accumulator weighs -/
noncomputable def weight (ps : List (Str × Str)) : Int := (ps.map fun p => ((p.1.length + p.2.length : Nat) : Int)).sum
theorem weight_short : ∀ {ps : List (Str × Str)}, (∀ p ∈ ps, p.1.length ≤ 100 ∧ p.2.length ≤ 100) → 0 ≤ weight ps ∧ weight ps ≤ 200 * ps.length
  | [], _ => by simp [weight]
  | p :: r, h => by
    have h1 := weight_short (ps := r) fun q hq => h q (.tail _ hq)
    have h2 := h p (.head _)
    have e : weight (p :: r) = ((p.1.length + p.2.length : Nat) : Int) + weight r := by simp [weight]
    rw [e]
    simp only [List.length_cons]
    omega
theorem preSum_weight (ps : List (Str × Str)) : ∀ j, j ≤ ps.length → preSum (fun j => (((fstOf ps j).length + (sndOf ps j).length : Nat) : Int)) j = weight (ps.take j)
  | 0, _ => by simp [preSum, weight]
  | j + 1, h => by
    have e : ps.getD j ("", "") = ps[j] := by rw [List.getD_eq_getElem?_getD, List.getElem?_eq_getElem h]; rfl
    rw [show preSum (fun j => (((fstOf ps j).length + (sndOf ps j).length : Nat) : Int)) (j + 1) = preSum (fun j => (((fstOf ps j).length + (sndOf ps j).length : Nat) : Int)) j + (((ps.getD j ("", "")).1.length + (ps.getD j ("", "")).2.length : Nat) : Int) from rfl, preSum_weight ps j (Nat.le_of_succ_le h), e]
    have e2 : ps.take (j + 1) = ps.take j ++ [ps[j]] := by rw [List.take_add_one, List.getElem?_eq_getElem h]; rfl
    rw [e2]
    unfold weight
    rw [List.map_append, List.sum_append]
    simp
theorem str_app_empty (a : Str) : a ++ (Str.ofString "") = a := by
  show (⟨a.cps ++ #[]⟩ : Str) = a
  rw [Array.append_empty]
theorem join2 (a b : Str) : Txt.join (Str.ofString "") [a, b] = a ++ b := by
  unfold Txt.join
  rw [StrLaws.glued_eq_join]
  show a ++ (Str.ofString "") ++ b = a ++ b
  rw [str_app_empty]
theorem range_pairs (ps : List (Str × Str)) : (List.range ps.length).map (fun j => fstOf ps j ++ sndOf ps j) = ps.map fun p => p.1 ++ p.2 := by
  refine @Mine.sqz _ ?zmain ?zfin
  case zmain =>
    apply List.ext_getElem
    · simp
    · intro i h1 h2
      have hi : i < ps.length := by simpa using h2
      have e : ps.getD i ("", "") = ps[i] := by rw [List.getD_eq_getElem?_getD, List.getElem?_eq_getElem hi]; rfl
      simp only [List.getElem_map, List.getElem_range]
      show (ps.getD i ("", "")).1 ++ (ps.getD i ("", "")).2 = _
      rw [e]
  case zfin => run_tac Mine.sq
theorem pairs_sum : ∀ {ps : List (Str × Str)}, (∀ p ∈ ps, p.1.length ≤ 100 ∧ p.2.length ≤ 100) → ((ps.map fun p => p.1 ++ p.2).map (·.length)).sum ≤ 200 * ps.length
  | [], _ => by simp
  | p :: r, h => by
    have h1 := pairs_sum (ps := r) fun q hq => h q (.tail _ hq)
    have h2 := h p (.head _)
    simp only [List.map_cons, List.sum_cons, List.length_cons, Str.length_append]
    omega
theorem strsAre2 {a b : Str} {t u : Tok} : StrsAre [.str a t, .str b u] [a, b] := by
  exact .cons _ _ (.cons _ _ .nil)
end Mine

theorem Mine.use_M20a : True := by
  w_top off
  run_tac Mine.use ["linesP", "linesZZ"]
  trivial
namespace Mine
section
variable {prog : Program} {w : World} {M : Model} {A : Around} {E : Value → Shared → Prop} {s : Shared} {K : Frag} {h₀ : Heap} {L x C D q : Addr} {m : Str → Option Value} {news news' : List (Addr × Obj)} {ox : Obj} {od : Option Obj} {name : Str}
theorem acc_methodF {f : Addr} {ga : String} {pl : Sem Bool} {Q : Value × List Value → Shared → Prop} (X : K.In s.heap) (I : W.InstAt s.heap x ox C od) (hga : findIn K (.ref C) "__getattribute__" = some (some (.builtin ga))) (hcan : Manifest.canonical ga = "object.__getattribute__")
    (hk : findIn K (.ref C) "__getattr__" = some none) (hf : findIn K (.ref C) name = some (some (.ref f))) (ht : isFn K (.ref f) = true) (hs : shadowIn od name = some false)
    (h : Q (.ref f, [.ref x]) s) : wpAny M A (getMethod (.ref x) name pl) Q E s := by
  refine @Mine.sqz _ ?zmain ?zfin
  case zmain =>
    unfold getMethod specialOf
    refine wpAny_bind (wpAny_bind (I.type.here ((looks_findIn X hga).here ?_)))
    dsimp only
    rw [hcan, if_neg (by decide)]
    refine wpAny_bind (wpAny_bind (I.type.here ((looks_findIn X hk).here ?_)))
    refine wpAny_bind (wpAny_bind (I.type.here ((looks_findIn X hf).here (wpAny_bind ((looks_typeIn X (beq_iff_eq.mp ht)).here ?_)))))
    rw [if_neg (by decide +kernel)]
    refine wpAny_bind (wpAny_loadPart I.at_ ?_)
    have hd := I.dict
    cases e : ox.dict with
    | none => exact wpAny_bind (wpAny_rule (wpAny_pure h))
    | some dx =>
      cases od with
      | none => rw [e] at hd; exact hd.elim
      | some o =>
        rw [e] at hd
        obtain ⟨r, a, b⟩ := Option.map_eq_some_iff.mp hs
        refine wpAny_bind (wpAny_bind (wpAny_loadPart hd ?_))
        rw [nsLook_of a]
        refine wpAny_pure ?_
        rw [b]
        exact wpAny_bind (wpAny_rule (wpAny_pure h))
  case zfin => run_tac Mine.sq
theorem erase_last (its : Array Value) (v : Value) : (its.push v).eraseIdxIfInBounds its.size = its := by
  apply Array.ext'
  rw [Array.eraseIdxIfInBounds, dif_pos (by simp)]
  simp [List.eraseIdx_append_of_length_le]
theorem pop_args (x : Addr) : (match Manifest.signature? "list.pop" with | some sig => Bind.checkArgs "list.pop" { sig with full := toString (Str.ofString "_Accumulator").toString ++ toString "." ++ toString (Bind.lastOf "list.pop") } ⟨[.ref x], []⟩ | none => pure ()) = pure () := by kernel_rfl
/-- the call of the bound method list.pop -/
theorem list_pop_call {Q : Value → Shared → Prop} {dx : Addr} {o : Obj} {its : Array Value} {v : Value} {n : Nat} {cd : ClassData} (F : Fr h₀ L s.heap m) (X₀ : K.In h₀) (N : News h₀ L s.heap news) (hq : (q, boundO "builtin_function_or_method" "list.pop" x) ∈ news)
    (hx : (dx, o) ∈ news) (hmod : mroIn K C (.type "module") = some false) (hcd : clsIn K C = some cd) (hqn : cd.qualname = Str.ofString "_Accumulator") (htc : typeIn K (.ref C) = some (.type "type"))
    (U : Upd x ⟨.ref C, some dx, .seq (its.push v) n, #[]⟩ ⟨.ref C, some dx, .seq its (n + 1), #[]⟩ news news') (hz : its.size ≤ 100)
    (h : ∀ h', Fr h₀ L h' m → News h₀ L h' news' → Q v { s with heap := h' }) : wpAny (model prog w) A (call (.ref q) []) Q E s := by
  refine @Mine.sqz _ ?zmain ?zfin
  case zmain =>
    obtain ⟨F', N', ho⟩ := upd_at (f := Obj.mapSeq (fun xs => xs.eraseIdxIfInBounds its.size)) F N U (by rw [mapSeq_acc (its' := its) (erase_last its v)]; simp) rfl
    have X := X₀.keeps F.keep
    have I : W.InstAt s.heap x ⟨.ref C, some dx, .seq (its.push v) n, #[]⟩ C (some o) := ⟨ho, rfl, rfl, (N _ hx).1⟩
    refine wpAny_call (codeAny_of_tree ?_)
    show wpAny _ A.in1 (callAny (.ref q) _) _ _ _
    unfold callAny
    refine wpAny_bind (wpAny_load (N _ hq).1 ?_)
    show wpAny _ _ (checkBoundCall "list.pop" ⟨[.ref x], []⟩ >>= fun _ => again (.builtin "list.pop" ⟨[.ref x], []⟩)) _ _ _
    refine wpAny_bind ?_
    unfold checkBoundCall
    have hk : builtinKind "list.pop" = some .method := by decide +kernel
    cases hsig : Manifest.signature? "list.pop" with
    | none => exact absurd hsig (by decide +kernel)
    | some sig =>
      have hargs := pop_args x
      rw [hsig] at hargs
      have I2 := I.type (M := model prog w)
      simp only [hk]
      rw [if_neg (by decide)]
      unfold isInstance
      obtain ⟨hh, g, d, t, os⟩ := s
      refine wpAny_bind (wpAny_bind (I2.at ((looks_mroIn X hmod).at ?_)))
      rw [if_neg (by decide +kernel)]
      refine wpAny_bind (ks_wpAny_isType_inst ho (fun c e => by cases e) ?_)
      rw [if_neg (by decide)]
      refine wpAny_bind (I2.at ?_)
      refine wpAny_bind ((looks_clsIn X hcd).at (wpAny_bind ((looks_typeIn X htc).at ?_)))
      rw [if_pos (by decide), hqn]
      refine wpAny_of_eq hargs ?_
      refine wpAny_pure ⟨plainId_quiet (by decide +kernel) _, codeAny_builtin PySem.F.entry_list_pop ?_⟩
      rw [Around.under_plainId (by decide +kernel) _]
      unfold Builtin.«list.pop»
      repeat (first | (with_reducible refine wpAny_seqItems ho rfl ?_) | wp_step | dsimp only)
      have hix : ((seqIndex? (-1) (its.push v).size).bind fun k => Option.map (fun x => (k, x)) (its.push v)[k]?) = some (its.size, v) := by
        have : seqIndex? (-1) (its.push v).size = some its.size := by
          unfold seqIndex?
          simp
          try omega
        rw [this]
        simp
      rw [hix]
      dsimp only
      refine wpAny_bind ?_
      refine wpAny_updateSeq ho rfl (wpAny_pure ?_) (by rw [Array.size_push]; exact Nat.le_trans (Nat.succ_le_succ hz) (by decide)) (by rw [erase_last]; exact Nat.le_succ_of_le (Nat.le_trans hz (by decide)))
      exact h _ F' N'
  case zfin => run_tac Mine.sq
end
end Mine

theorem Mine.use_M20b : True := by
  w_top off
  run_tac Mine.use ["linesP", "linesZZ"]
  trivial
namespace Mine
section
variable {prog : Program} {w : World} {A : Around} {E : Value → Shared → Prop} {s : Shared} {K : Frag} {h₀ : Heap} {L x C dx : Addr} {m : Str → Option Value} {news news' : List (Addr × Obj)} {ox : Obj} {od : Option Obj} {name : Str}
theorem acc_special {M : Model} {id : String} {args : List Value} {Q : Option Value → Shared → Prop} (X : K.In s.heap) (I : W.InstAt s.heap x ox C od) (hs : findIn K (.ref C) name = some (some (.builtin id)))
    (hb : bindSpecial (.builtin id) (.ref x) = pure (.builtin id, [.ref x])) (h : wpAny M A (call (.builtin id) (.ref x :: args)) (fun v => Q (some v)) E s) : wpAny M A (callSpecial? (.ref x) name args) Q E s := by
  refine @Mine.sqz _ ?zmain ?zfin
  case zmain =>
    unfold callSpecial? specialOf
    refine wpAny_bind (wpAny_bind (I.type.here ((looks_findIn X hs).here ?_)))
    refine wpAny_holding (wpAny_bind (wpAny_of_eq hb ?_))
    exact wpAny_bind (wpAny_mono h (fun v s' h' => wpAny_pure h') fun _ _ z => z)
  case zfin => run_tac Mine.sq
theorem acc_seqKey {M : Model} {k : Value} {Q : Value → Shared → Prop} (X : K.In s.heap) (I : W.InstAt s.heap x ox C od) (hq : noSeq K C = true) (h : Q k s) : wpAny M A (sequenceKey (.ref x) k name) Q E s := by
  unfold sequenceKey
  refine wpAny_bind (I.type.here ?_)
  dsimp only
  refine wpAny_bind ((anyM_none X hq).here ?_)
  rw [if_pos (show (!false) = true from rfl)]
  exact wpAny_pure h
/-- a slice of an accumulator -/
theorem acc_slice {value slice : Expr} {o : Obj} {items : Array Value} {n : Nat} {vl vu : Value} {lo hi : Option Int} {Q : Value → Shared → Prop}
    (F : Fr h₀ L s.heap m) (X₀ : K.In h₀) (N : News h₀ L s.heap news) (ha : (x, ⟨.ref C, some dx, .seq items n, #[]⟩) ∈ news) (hdx : (dx, o) ∈ news) (pl : IsPart vl lo) (pu : IsPart vu hi)
    (hf : findIn K (.ref C) "__getitem__" = some (some (.builtin "list.__getitem__"))) (hm : mroIn K C (.type "list") = some true) (hq : noSeq K C = true)
    (h : ∀ h', Fr h₀ L h' m → News h₀ L h' ((s.heap.objs.size + 1, { cls := .type "list", data := .seq (slicePick items lo hi none) }) :: news) → (∀ p ∈ news, p.1 < s.heap.objs.size + 1) → Q (.ref (s.heap.objs.size + 1)) { s with heap := h' })
    (hs : subscripted slice false (.ref x) (.ref s.heap.objs.size) = operate [.ref s.heap.objs.size, .ref x] (getItem (.ref x) (.ref s.heap.objs.size)))
    (ht : ∀ r, letTemporaryGo value (.ref x) r = pure ())
    (hsz : items.size ≤ 100) :
    wpAny (model prog w) A (subscriptTail value slice (.ref x) (.ref s.heap.objs.size)) Q E { s with heap := s.heap.push { cls := .type "slice", data := .fields #[vl, vu, .none] } } := by
  refine @Mine.sqz _ ?zmain ?zfin
  case zmain =>
    have N0 : News h₀ L (s.heap.push { cls := .type "slice", data := .fields #[vl, vu, .none] }) news := N.grown fun _ _ e => Heap.get?_push_of_some _ e
    have F0 : Fr h₀ L (s.heap.push { cls := .type "slice", data := .fields #[vl, vu, .none] }) m := F.push _
    have X : K.In (s.heap.push { cls := .type "slice", data := .fields #[vl, vu, .none] }) := X₀.keeps F0.keep
    have I : W.InstAt (s.heap.push { cls := .type "slice", data := .fields #[vl, vu, .none] }) x ⟨.ref C, some dx, .seq items n, #[]⟩ C (some o) := ⟨(N0 _ ha).1, rfl, rfl, (N0 _ hdx).1⟩
    have hsl : (s.heap.push { cls := .type "slice", data := .fields #[vl, vu, .none] }).IsSliceOf s.heap.objs.size vl vu .none := Heap.IsSliceOf.new ..
    have N1 := News.push F0 N0 { cls := .type "list", data := .seq (slicePick items lo hi none) }
    rw [Heap.size_push] at N1
    have hQ := h _ (F0.push _) N1 (fun p hp => Nat.lt_succ_of_lt (Heap.lt_size (N p hp).1))
    obtain ⟨hh, g, d, t, os⟩ := s
    obtain ⟨o2, hos, hcs, hds⟩ := id hsl
    have hTs : ∀ {g d t os}, (⟨hh.push { cls := .type "slice", data := .fields #[vl, vu, .none] }, g, d, t, os⟩ : Shared).TypeIs (.ref hh.objs.size) "slice" := ⟨o2, hos, hcs⟩
    unfold subscriptTail
    refine wpAny_bind ?_
    unfold getitemInPython specialOf
    refine wpAny_bind (wpAny_bind (I.type.here ((looks_findIn X hf).here ?_)))
    refine wpAny_pure ?_
    rw [hs]
    refine wpAny_bind (wpAny_operating ?_)
    have fin : ∀ s', Q (.ref (hh.objs.size + 1)) s' → wpAny (model prog w) A (letTemporaryGo value (.ref x) (.ref (hh.objs.size + 1)) >>= fun _ => pure (.ref (hh.objs.size + 1))) Q E s' := fun s' q => wpAny_bind (wpAny_of_eq (ht _) (wpAny_pure q))
    unfold getItem
    refine wpAny_holding (wpAny_bind (acc_seqKey X I hq ?_))
    refine wpAny_bind (acc_special X I hf (slot_list_getitem.bind _) ?_)
    refine acc_call (owner := "list") (n := "__getitem__") (by decide +kernel) (by decide +kernel) (by decide +kernel) entry_list_getitem X I hm (args_list_getitem _ _) ?_
    show wpAny _ _ (Builtin.List.listSubscript? (.ref hh.objs.size) >>= _) _ _ _
    refine wpAny_bind ?_
    unfold Builtin.List.listSubscript?
    refine wpAny_bind (wpAny_specialOf hTs slice_no_index ?_)
    simp only [Option.isNone_none, if_true]
    refine wpAny_pure ?_
    show wpAny _ _ (typeOf (.ref hh.objs.size) >>= _) _ _ _
    refine wpAny_bind (wpAny_typeOf hTs ?_)
    rw [if_neg (by decide)]
    rw [listSliceParts_eq]
    refine wpAny_bind (wpAny_bind (wpAny_field hos hds (x := .none) rfl (wpAny_bind (wpAny_listPart .none ?_))))
    rw [if_neg (show ¬ ((rawPart none == rawInt 0) = true) from Bool.false_ne_true)]
    refine wpAny_bind (wpAny_field hos hds (x := vl) rfl (wpAny_bind (wpAny_listPart pl ?_)))
    refine wpAny_bind (wpAny_field hos hds (x := vu) rfl (wpAny_bind (wpAny_listPart pu (wpAny_pure ?_))))
    refine wpAny_bind (m := Builtin.List.listItems (.ref x)) ?_
    unfold Builtin.List.listItems
    refine wpAny_bind (wpAny_seqItems I.at_ rfl (wpAny_pure ?_))
    refine wpAny_bind (wpAny_of_eq (sliceIndices_raw lo hi none items.size (by simp)) ?_)
    refine wpAny_bind (wpAny_newObj_type (wpAny_pure ⟨_, rfl, wpAny_pure ?_⟩) (Nat.le_trans (slicePick_size_le items lo hi none) (Nat.le_trans hsz (by decide))))
    rw [Heap.size_push]
    exact fin _ hQ
  case zfin => run_tac Mine.sq
/-- a slice of an accumulator is set -/
theorem acc_setslice {o : Obj} {items its items' : Array Value} {n nb : Nat} {b : Addr} {vl vu : Value} {lo hi : Option Int} {Q : Unit → Shared → Prop}
    (F : Fr h₀ L s.heap m) (X₀ : K.In h₀) (N : News h₀ L s.heap news) (ha : (x, ⟨.ref C, some dx, .seq items n, #[]⟩) ∈ news) (hdx : (dx, o) ∈ news) (hb : (b, W.listOf its nb) ∈ news) (hne : x ≠ b) (pl : IsPart vl lo) (pu : IsPart vu hi)
    (hf : findIn K (.ref C) "__setitem__" = some (some (.builtin "list.__setitem__"))) (hm : mroIn K C (.type "list") = some true) (hq : noSeq K C = true)
    (he : items.extract 0 (sliceBounds lo hi none items.size).1.toNat ++ its ++ items.extract (max (sliceBounds lo hi none items.size).1 (sliceBounds lo hi none items.size).2.1).toNat items.size = items')
    (U : Upd x ⟨.ref C, some dx, .seq items n, #[]⟩ ⟨.ref C, some dx, .seq items' (if items'.size == items.size then n else n + 1), #[]⟩ news news')
    (hsz : items.size ≤ 100) (hsz2 : its.size ≤ 100) (hst : (sliceBounds lo hi none items.size).2.2 = 1)
    (h : ∀ h', Fr h₀ L h' m → News h₀ L h' news' → Q () { s with heap := h' }) :
    wpAny (model prog w) A (setItem (.ref x) (.ref s.heap.objs.size) (.ref b)) Q E { s with heap := s.heap.push { cls := .type "slice", data := .fields #[vl, vu, .none] } } := by
  refine @Mine.sqz _ ?zmain ?zfin
  case zmain =>
    have N0 : News h₀ L (s.heap.push { cls := .type "slice", data := .fields #[vl, vu, .none] }) news := N.grown fun _ _ e => Heap.get?_push_of_some _ e
    have F0 : Fr h₀ L (s.heap.push { cls := .type "slice", data := .fields #[vl, vu, .none] }) m := F.push _
    have X : K.In (s.heap.push { cls := .type "slice", data := .fields #[vl, vu, .none] }) := X₀.keeps F0.keep
    have I : W.InstAt (s.heap.push { cls := .type "slice", data := .fields #[vl, vu, .none] }) x ⟨.ref C, some dx, .seq items n, #[]⟩ C (some o) := ⟨(N0 _ ha).1, rfl, rfl, (N0 _ hdx).1⟩
    have hsl : (s.heap.push { cls := .type "slice", data := .fields #[vl, vu, .none] }).IsSliceOf s.heap.objs.size vl vu .none := Heap.IsSliceOf.new ..
    have hbo := (N0 _ hb).1
    have he2 : items.size + its.size ≤ 200 := by omega
    have hsz3 : items'.size ≤ 300 := by
      rw [← he, Array.size_append, Array.size_append, Array.size_extract, Array.size_extract]
      omega
    obtain ⟨F', N', ho⟩ := upd_at (f := Obj.mapSeq (fun xs => xs.extract 0 (sliceBounds lo hi none items.size).1.toNat ++ its ++ xs.extract (max (sliceBounds lo hi none items.size).1 (sliceBounds lo hi none items.size).2.1).toNat xs.size)) F0 N0 U (mapSeq_acc (f := fun xs => xs.extract 0 (sliceBounds lo hi none items.size).1.toNat ++ its ++ xs.extract (max (sliceBounds lo hi none items.size).1 (sliceBounds lo hi none items.size).2.1).toNat xs.size) he) rfl
    have hQ := h _ F' N'
    obtain ⟨hh, g, d, t, os⟩ := s
    obtain ⟨o2, hos, hcs, hds⟩ := id hsl
    have hTs : ∀ {g d t os}, (⟨hh.push { cls := .type "slice", data := .fields #[vl, vu, .none] }, g, d, t, os⟩ : Shared).TypeIs (.ref hh.objs.size) "slice" := ⟨o2, hos, hcs⟩
    have hTb : ∀ {g d t os}, (⟨hh.push { cls := .type "slice", data := .fields #[vl, vu, .none] }, g, d, t, os⟩ : Shared).TypeIs (.ref b) "list" := ⟨_, hbo, rfl⟩
    unfold setItem
    refine wpAny_holding (wpAny_bind (acc_seqKey X I hq ?_))
    refine wpAny_bind (acc_special X I hf (PySem.F.slot_list_setitem.bind _) ?_)
    refine acc_call (owner := "list") (n := "__setitem__") (by decide +kernel) (by decide +kernel) (by decide +kernel) PySem.F.entry_list_setitem X I hm (PySem.F.args_list_setitem_3 _ _ _) ?_
    unfold Builtin.«list.__setitem__»
    refine wpAny_bind (wpAny_pure ?_)
    show wpAny _ _ (Builtin.List.listSubscript? (.ref hh.objs.size) >>= _) _ _ _
    refine wpAny_bind ?_
    unfold Builtin.List.listSubscript?
    refine wpAny_bind (wpAny_specialOf hTs slice_no_index ?_)
    simp only [Option.isNone_none, if_true]
    refine wpAny_pure ?_
    show wpAny _ _ (typeOf (.ref hh.objs.size) >>= _) _ _ _
    refine wpAny_bind (wpAny_typeOf hTs ?_)
    rw [if_neg (by decide)]
    rw [listSliceParts_eq]
    refine wpAny_bind (wpAny_bind (wpAny_field hos hds (x := .none) rfl (wpAny_bind (wpAny_listPart .none ?_))))
    rw [if_neg (show ¬ ((rawPart none == rawInt 0) = true) from Bool.false_ne_true)]
    refine wpAny_bind (wpAny_field hos hds (x := vl) rfl (wpAny_bind (wpAny_listPart pl ?_)))
    refine wpAny_bind (wpAny_field hos hds (x := vu) rfl (wpAny_bind (wpAny_listPart pu (wpAny_pure ?_))))
    rw [if_neg (by unfold Builtin.List.listSameRef; simpa using hne)]
    refine wpAny_bind ?_
    unfold Builtin.List.listAllItems
    refine wpAny_bind (wpAny_typeOf hTb ?_)
    rw [if_pos (by decide)]
    unfold Builtin.List.listItems
    refine wpAny_bind (wpAny_seqItems hbo rfl (wpAny_pure ?_))
    refine wpAny_bind (wpAny_bind (wpAny_seqItems ho rfl (wpAny_pure ?_)))
    refine wpAny_bind (wpAny_of_eq (sliceIndices_raw lo hi none items.size (by simp)) ?_)
    rw [if_pos (by rw [hst]; rfl)]
    refine wpAny_bind (wpAny_rule ?_)
    rw [if_neg (by unfold Builtin.List.listTooLong; simp; rw [sizeLine_eq]; omega)]
    refine wpAny_bind ?_
    refine wpAny_updateSeq ho rfl ?_ (Nat.le_trans hsz (by decide)) (by rw [he]; exact Nat.le_trans hsz3 (by decide))
    refine wpAny_bind (wpAny_letGo ?_)
    exact wpAny_pure ⟨.none, rfl, wpAny_pure hQ⟩
  case zfin => run_tac Mine.sq
end
end Mine

theorem Mine.use_M21b : True := by
  w_top off
  run_tac Mine.use ["linesP", "linesZZ"]
  trivial
namespace Mine
/-- the two searches, as their loops go -/
noncomputable def bisL (f : Nat → Int) (x : Int) : Nat → Nat → Nat → Nat
  | 0, lo, _ => lo
  | k + 1, lo, hi => if lo < hi then (if f ((lo + hi) / 2) < x then bisL f x k ((lo + hi) / 2 + 1) hi else bisL f x k lo ((lo + hi) / 2)) else lo
noncomputable def bisR (f : Nat → Int) (x : Int) : Nat → Nat → Nat → Nat
  | 0, lo, _ => lo
  | k + 1, lo, hi => if lo < hi then (if x < f ((lo + hi) / 2) then bisR f x k lo ((lo + hi) / 2) else bisR f x k ((lo + hi) / 2 + 1) hi) else lo
section
variable {prog : Program} {w : World} {A : Around} {E : Value → Shared → Prop} {s : Shared} {h₀ : Heap} {env : Env} {L : Addr} {test : Expr} {body : List Stmt} {Q : Flow → Shared → Prop} {news : List (Addr × Obj)}
/-- where a turn of a while loop may end -/
noncomputable def WEnd (h₀ : Heap) (L : Addr) (news : List (Addr × Obj)) (s : Shared) (I : Nat → (Str → Option Value) → Prop) (n : Nat) (Q : Flow → Shared → Prop) (f : Flow) (s' : Shared) : Prop :=
  match f with
  | .brk => Q .next s'
  | .ret v => Q (.ret v) s'
  | _ => ∃ h' tk' m' n', s' = St s h' s.gens tk' ∧ n' < n ∧ Fr h₀ L h' m' ∧ News h₀ L h' news ∧ I n' m'
theorem while_frame {m₀ : Str → Option Value} {n₀ : Nat} (I : Nat → (Str → Option Value) → Prop) (F : Fr h₀ L s.heap m₀) (N : News h₀ L s.heap news) (start : I n₀ m₀)
    (turn : ∀ n m h tk E', I n m → Fr h₀ L h m → News h₀ L h news → wpAny (model prog w) A (isTrue test env (eval test env)) (fun b s₂ => if b then wpAny (model prog w) A (execs body env) (WEnd h₀ L news s I n Q) E' s₂ else Q .next s₂) E' (St s h s.gens tk)) :
    codeAny (model prog w) A (.whileLoop test body [] env) (fun r s' => match r with | .ok f => Q f s' | .error e => cameBackBy (model prog w) A env E e s') s := by
  refine @Mine.sqz _ ?zmain ?zfin
  case zmain =>
    let J : Nat → Shared → Prop := fun n s' => ∃ m h tk, s' = St s h s.gens tk ∧ I n m ∧ Fr h₀ L h m ∧ News h₀ L h news
    refine codeAny_whileLoop J (fun n s' hJ => ?_) n₀ ⟨m₀, _, s.toks, rfl, start, F, N⟩
    obtain ⟨m, h, tk, rfl, hI, F', N'⟩ := hJ
    refine wpAny_mono (turn n m h tk _ hI F' N') (fun b s₂ h₂ => ?_) fun _ _ x => x
    cases b with
    | false =>
      simp only [Bool.false_eq_true, if_false] at h₂ ⊢
      exact wpAny_pure h₂
    | true =>
      simp only [if_true] at h₂ ⊢
      refine wpAny_mono h₂ (fun f s₃ h₃ => ?_) fun _ _ x => x
      have fin : (∃ h' tk' m' n', s₃ = St s h' s.gens tk' ∧ n' < n ∧ Fr h₀ L h' m' ∧ News h₀ L h' news ∧ I n' m') → ∃ k, k < n ∧ J k s₃ := by
        rintro ⟨h', tk', m', n', rfl, a1, a2, a3, a4⟩
        exact ⟨n', a1, m', h', tk', rfl, a4, a2, a3⟩
      cases f with
      | brk => exact h₃
      | ret v => exact h₃
      | next => exact fin h₃
      | cont => exact fin h₃
  case zfin => run_tac Mine.sq
end
/-- what a key function answers -/
noncomputable def KeySpec (w : World) (kf : Addr) (news : List (Addr × Obj)) (val : Nat → Int) (dom : Nat) : Prop :=
  ∀ {A₀ : Around} {base h₀ : Heap} {outer : List Env} {env : Env} {L : Addr} {m : Str → Option Value} {s : Shared} {lo : List Str} {me : ExcName → Option Value} {mg mb : Str → Option Value} {R : Result → Shared → Prop} {d u : Nat} {gd : Option (List Code)} {k : Nat} {tk : Tok},
    Below A₀ base outer h₀ → Fr h₀ L s.heap m → (Mine.hd.heap_39 w.params).In h₀ → News h₀ L s.heap news → Top topProg lo me mg mb h₀ → env.frame = some L → env.scope.kind = .function → d < 800 → u < 800 → k < dom →
    (∀ h' t tk', Fr h₀ L h' m → News h₀ L h' news → R (.ok (.ret (.int (val k) t))) (St s h' s.gens tk')) →
    codeAny (model Challenge.rw_if0017_01.row.prog w) (Around.mk none d (some (env :: outer)) gd u) (.call (.ref kf) ⟨[.int k tk], []⟩) R s
/-- a def or lambda of the ledger -/
noncomputable def FnAt (kf : Addr) (h : Heap) : Prop := ∃ fo fd, h.get? kf = some fo ∧ fo.data = .func fd
theorem FnAt.of {h₀ h : Heap} {L : Addr} {news : List (Addr × Obj)} {kf : Addr} (N : News h₀ L h news) (hfn : ∃ fo fd, (kf, fo) ∈ news ∧ fo.data = .func fd) : FnAt kf h := let ⟨fo, fd, a, b⟩ := hfn; ⟨fo, fd, (N _ a).1, b⟩
theorem callWith_fn {news : List (Addr × Obj)} {M : Model} {A : Around} {E : Value → Shared → Prop} {s : Shared} {env : Env} {pos : Pos} {first : List Value} {Q : Value → Shared → Prop} {kf : Addr} {e : Expr} {rest : List Expr} (_hfn : ∃ fo fd, (kf, fo) ∈ news ∧ fo.data = .func fd)
    (h : wpAny M A (spliced (backTo pos (starEach (e :: rest) env))) (fun vs s₁ => FnAt kf s₁.heap ∧ wpAny M A (call (.ref kf) (first ++ vs)) Q E s₁) E s)
    (he : starEach (e :: rest) env = (false, eval e env) :: starEach rest env := by rfl) (hplain : (backTo pos (starEach rest env)).any (·.1) = false := by rfl) :
    wpAny M A (callWith pos (.ref kf) first (backTo pos (starEach (e :: rest) env)) []) Q E s := by
  refine @Mine.sqz _ ?zmain ?zfin
  case zmain =>
    rw [he] at h ⊢
    refine callWith_of (P := FnAt kf) (by show ((false || (backTo pos (starEach rest env)).any (·.1)) || false) = false; rw [hplain]; rfl) (fun h' e' => ?_) (evalArgs_plain h)
    obtain ⟨fo, fd, e1, e2⟩ := e'
    refine ⟨.frame, .inl rfl, (Looks.ld (part := none) e1).andThen ?_⟩
    rw [e2]
    exact .now
  case zfin => run_tac Mine.sq
/-- a list of small numbers -/
noncomputable def NatsIn (items : Array Value) (ns : List Nat) : Prop := items.size = ns.length ∧ ∀ (i : Nat) k, ns[i]? = some k → ∃ t, items[i]? = some (.int (k : Int) t)
theorem NatsIn.at {items : Array Value} {ns : List Nat} (h : NatsIn items ns) {i : Nat} (hi : i < ns.length) : ∃ t, items[((i : Nat) : Int).toNat]? = some (.int ((ns.getD i 0 : Nat) : Int) t) := by
  obtain ⟨t, e⟩ := h.2 i _ (List.getElem?_eq_getElem hi)
  exact ⟨t, by rw [Int.toNat_natCast, e, List.getD_eq_getElem?_getD, List.getElem?_eq_getElem hi]; rfl⟩
noncomputable def IntsIn (items : Array Value) (ns : List Int) : Prop := items.size = ns.length ∧ ∀ (i : Nat) k, ns[i]? = some k → ∃ t, items[i]? = some (.int k t)
/-- what a search keeps -/
noncomputable def BisI (g : Nat → Nat → Nat → Nat) (r N : Nat) (a : Addr) (x : Int) (xt : Tok) (kv : Value) (n : Nat) (m : Str → Option Value) : Prop :=
  ∃ k lo hi t1 t2, n = hi - lo ∧ hi - lo ≤ k ∧ hi ≤ N ∧ lo ≤ N ∧ g k lo hi = r ∧ m (Str.ofString "lo") = some (.int (lo : Nat) t1) ∧ m (Str.ofString "hi") = some (.int (hi : Nat) t2) ∧
    m (Str.ofString "a") = some (.ref a) ∧ m (Str.ofString "x") = some (.int x xt) ∧ m (Str.ofString "key") = some kv
theorem BisI.map {a : Addr} {x : Int} {xt : Tok} {kv : Value} {m : Str → Option Value} {lo hi : Nat} {t1 t2 : Tok} (h1 : m (Str.ofString "lo") = some (.int (lo : Nat) t1)) (h2 : m (Str.ofString "hi") = some (.int (hi : Nat) t2)) (h3 : m (Str.ofString "a") = some (.ref a)) (h4 : m (Str.ofString "x") = some (.int x xt)) (h5 : m (Str.ofString "key") = some kv) :
    m = fun y => if y = Str.ofString "lo" then some (.int (lo : Nat) t1) else if y = Str.ofString "hi" then some (.int (hi : Nat) t2) else if y = Str.ofString "a" then some (.ref a) else if y = Str.ofString "x" then some (.int x xt) else if y = Str.ofString "key" then some kv else m y := map5 (by with_reducible assumption) (by with_reducible assumption) (by with_reducible assumption) (by with_reducible assumption) (by with_reducible assumption)
theorem bs_mid {lo hi n : Nat} (h : lo < hi) (hh : hi ≤ n) : (lo + hi) / 2 < n := by omega
theorem bs_k {lo hi k : Nat} (h : lo < hi) (hk : hi - lo ≤ k) : ∃ k', k = k' + 1 := ⟨k - 1, by omega⟩
theorem bs_u1 {lo hi : Nat} (h : lo < hi) : hi - ((lo + hi) / 2 + 1) < hi - lo := by omega
theorem bs_u2 {lo hi k : Nat} (h : lo < hi) (hk : hi - lo ≤ k + 1) : hi - ((lo + hi) / 2 + 1) ≤ k := by omega
theorem bs_d1 {lo hi : Nat} (h : lo < hi) : (lo + hi) / 2 - lo < hi - lo := by omega
theorem bs_d2 {lo hi k : Nat} (h : lo < hi) (hk : hi - lo ≤ k + 1) : (lo + hi) / 2 - lo ≤ k := by omega
theorem bs_d3 {lo hi n : Nat} (h : lo < hi) (hh : hi ≤ n) : (lo + hi) / 2 ≤ n := by omega
theorem mid_nat (lo hi : Nat) : ((lo : Int) + (hi : Int)) / 2 = (((lo + hi) / 2 : Nat) : Int) := by omega
theorem mid_fdiv (lo hi : Nat) : Int.fdiv ((lo : Int) + (hi : Int)) 2 = (((lo + hi) / 2 : Nat) : Int) := by
  rw [Int.fdiv_eq_ediv_of_nonneg _ (by omega)]; omega
theorem IntsIn.at {items : Array Value} {ns : List Int} (h : IntsIn items ns) {i : Nat} (hi : i < ns.length) : ∃ t, items[((i : Nat) : Int).toNat]? = some (.int (ns.getD i 0) t) := by
  obtain ⟨t, e⟩ := h.2 i _ (List.getElem?_eq_getElem hi)
  exact ⟨t, by rw [Int.toNat_natCast, e, List.getD_eq_getElem?_getD, List.getElem?_eq_getElem hi]; rfl⟩
theorem KeySpec.use {w : World} {kf : Addr} {news : List (Addr × Obj)} {val : Nat → Int} {dom : Nat} (hs : KeySpec w kf news val dom) {A₀ : Around} {base h₀ : Heap} {outer : List Env} {env : Env} {L : Addr} {m : Str → Option Value} {s : Shared} {lo : List Str} {me : ExcName → Option Value} {mg mb : Str → Option Value} {R : Result → Shared → Prop} {d u : Nat} {gd : Option (List Code)} {k : Nat} {tk : Tok}
    (B : Below A₀ base outer h₀) (F : Fr h₀ L s.heap m) (X : (Mine.hd.heap_39 w.params).In h₀) (N : News h₀ L s.heap news) (T : Top topProg lo me mg mb h₀) (hf : env.frame = some L) (hke : env.scope.kind = .function) (hd : d < 800) (hu : u < 800) (hk : k < dom)
    (h : ∀ h' t tk', Fr h₀ L h' m → News h₀ L h' news → R (.ok (.ret (.int (val k) t))) (St s h' s.gens tk')) :
    codeAny (model Challenge.rw_if0017_01.row.prog w) (Around.mk none d (some (env :: outer)) gd u) (.call (.ref kf) ⟨[.int k tk], []⟩) R s := hs B F X N T hf hke hd hu hk h
end Mine

theorem Mine.row_lines : True := by
  k_with "@lines@k_in" => (first | assumption | exact Frag.In.keeps (by k_asm) (Fr.keep (by k_asm)))
  k_with "@lines@k_room" => (((try simp only [depth_under_make, depth_under_kw, depth_in1, depth_deeper, depth_caller]); show _ < recursionLimit; simp only [recursionLimit]; omega))
  k_with "@lines@k_data" => ((
  refine' code_def ?k1 ?k2 ?k3 ?k4 ?k5 ?kA ?hf ?hke ?k6 ?k7 ?k8 ?k9 ?kB ?_ ?c2 ?c3 ?c4 ?c5
  case k1 => assumption
  case k2 => assumption
  case k3 => assumption
  case k4 => assumption
  case k5 => assumption
  case hf => assumption
  case hke => assumption
  case kA => exact rfl
  case k6 => k_is
  case k7 => k_is
  case k8 => k_room
  case k9 => first | exact BindsTo.of_eq rfl | exact binds_K (by k_in) rfl (by k_is) rfl rfl rfl | (refine' Mine.Run.binds ?bR; (case bR => (repeat' (first | exact Mine.Run.done rfl | exact Mine.Run.ns (by k_in) rfl (by k_is) | exact Mine.Run.seq (by k_in) rfl (by k_is) rfl | refine' Mine.Run.andThen rfl ?_ ?_ | fail))))
  case kB => exact locs rfl
  case c5 => decide
  case c2 => rfl
  case c3 => rfl
  case c4 => rfl
  intro g' L' h' FG' F' N' B' X' T'
  (try dsimp only)))
  k_with "@lines@getMethod ref" => ((k_here; (with_reducible show wpAny _ _ (getMethod (Value.ref _) (PySem.Str.ofString "append") _) _ _ _); k_dflt (refine' Mine.acc_method ?k1 ?k2 ?k3 ?kc ?k4 ?k5 ?k6 ?k7 ?_; (case k1 => k_in); (case k2 => (refine' Mine.InstAt.of_newsA ?iN ?ih1 ?ih2 ?ih3; (case iN => k_asm); (case ih1 => run_tac Mine.memT); (case ih2 => run_tac Mine.memT); (case ih3 => exact rfl))); (case k3 => k_is); (case kc => exact Mine.canon_list_ga); (case k4 => k_is); (case k5 => k_is); (case k6 => exact PySem.F.type_list_append); (case k7 => exact rfl); k_whole)))
  k_with "@lines@call builtin:list.append" => ((k_here; (with_reducible show wpAny _ _ (call (Value.builtin _) [Value.ref _, _]) _ _ _); k_dflt (refine' Mine.acc_append ?k1 ?k0 ?k2 ?kx ?km ?k3 ?_ ?z; (case k1 => k_asm); (case k0 => k_asm); (case k2 => k_asm); (case k3 => k_upd); (case kx => run_tac Mine.memT); (case km => k_is); (case z => first | assumption | size_fits); k_whole); intro h' F' N'; (try k_sweep)))
  k_with "@lines@k_all" => ((exact AllLt.ne (by assumption)))
  k_with "@lines@k_all" => (assumption)
  k_with "@lines@exec For Tuple Name cons nil" => ((k_here; refine wpAny_For ?_))
  k_with "@lines@exec For Name Name cons nil" => ((k_here; refine wpAny_For ?_))
  k_with "@lines@assign Tuple" => ((k_here; (with_reducible show wpAny _ _ (assign (Expr.Tuple _ _ _) _ (Value.ref _)) _ _ _); k_dflt (refine' unpackN_ ?F ?N ?T ?k1 ?k2 ?k3 ?_; (case F => k_asm); (case N => k_asm); (case T => (refine News.isTup (by k_asm) (by run_tac Mine.memT))); (case k1 => exact rfl); (case k2 => exact rfl); (case k3 => exact rfl)); intro h' F' N'; (try k_sweep)))
  k_with "@lines@size_fits" => ((show _ ≤ sizeLine; (try simp only [Str.length_append, Mine.sl1, Mine.sl2, Mine.sl3, Mine.sl4, Mine.sl5]); rw [PySem.sizeLine_eq]; omega))
  k_with "@lines@binaryOp Mult int str" => ((k_here; (with_reducible show wpAny _ _ (binaryOp Operator.Mult (Value.int 2 _) (Value.str _ _)) _ _ _); k_dflt (refine Mine.mul2_str (by omega) (by omega) ?_); intro tk'))
  k_with "@lines@call builtin:dict.get" => ((k_here; k_dflt (refine' Mine.told_get ?a1 ?a2 ?a3 ?a4 ?a5 ?a6 ?_; (case a1 => k_asm); (case a2 => run_tac Mine.memT); (case a3 => k_asm); (case a4 => k_asm); (case a5 => k_asm); (case a6 => k_asm); k_whole); intro tk'))
  k_with "@lines@k_data" => ((refine' ks_code_super ?k1 ?k2 ?k3 ?k4 ?k5 ?kA ?kF ?kK ?k6 ?k7 ?k8 ?k9 ?kB ?_ ?c1 ?c2 ?c3 ?c4; (case kA => exact rfl); (case kF => assumption); (case kK => assumption); (case k1 => assumption); (case k2 => assumption); (case k3 => assumption); (case k4 => assumption); (case k5 => assumption); (case k6 => k_is); (case k7 => k_is); (case k8 => k_room); (case k9 => first | exact BindsTo.of_eq rfl | exact binds_K (by k_in) rfl (by k_is) rfl rfl rfl | (refine' Mine.Run.binds ?bR; (case bR => (repeat' (first | exact Mine.Run.done rfl | exact Mine.Run.ns (by k_in) rfl (by k_is) | exact Mine.Run.seq (by k_in) rfl (by k_is) rfl | refine' Mine.Run.andThen rfl ?_ ?_ | fail))))); (case kB => exact locs rfl); (case c1 => decide); (case c2 => exact rfl); (case c3 => exact rfl); (case c4 => exact rfl); intro g' L' h' FG' F' N' B' X' T' l1; (try dsimp only)))
  k_with "@lines@getMethod ref" => ((k_here; (first | (with_reducible show wpAny _ _ (getMethod (Value.ref _) (PySem.Str.ofString "__len__") _) _ _ _); k_dflt (refine' Mine.sup_len ?k1 ?k2 ?k3 ?k4 ?k5 ?k6 ?k7 ?k8 ?_; (case k1 => k_asm); (case k2 => k_asm); (case k3 => k_asm); (case k4 => run_tac Mine.memT); (case k5 => (refine' Mine.InstAt.of_newsA ?iN ?ih1 ?ih2 ?ih3; (case iN => k_asm); (case ih1 => run_tac Mine.memT); (case ih2 => run_tac Mine.memT); (case ih3 => exact rfl))); (case k6 => k_is); (case k7 => ks_is); (case k8 => k_is)) | (with_reducible show wpAny _ _ (getMethod (Value.ref _) (PySem.Str.ofString "__init__") _) _ _ _); k_dflt (refine' Mine.sup_init ?k1 ?k2 ?k3 ?k4 ?k5 ?k6 ?k7 ?k8 ?_; (case k1 => k_asm); (case k2 => k_asm); (case k3 => k_asm); (case k4 => run_tac Mine.memT); (case k5 => (refine' Mine.InstAt.of_newsA ?iN ?ih1 ?ih2 ?ih3; (case iN => k_asm); (case ih1 => run_tac Mine.memT); (case ih2 => run_tac Mine.memT); (case ih3 => exact rfl))); (case k6 => k_is); (case k7 => ks_is); (case k8 => k_is)) | (with_reducible show wpAny _ _ (getMethod (Value.ref _) (PySem.Str.ofString "pop") _) _ _ _); k_dflt (refine' Mine.sup_pop ?k1 ?k2 ?k3 ?k4 ?k5 ?k6 ?k7 ?k8 ?_; (case k1 => k_asm); (case k2 => k_asm); (case k3 => k_asm); (case k4 => run_tac Mine.memT); (case k5 => (refine' Mine.InstAt.of_newsA ?iN ?ih1 ?ih2 ?ih3; (case iN => k_asm); (case ih1 => run_tac Mine.memT); (case ih2 => run_tac Mine.memT); (case ih3 => exact rfl))); (case k6 => k_is); (case k7 => ks_is); (case k8 => k_is))); intro q' h' F' N' l1; (try k_lt l1); (try dsimp only)))
  k_with "@lines@call ref" => ((k_here; k_dflt (first | (refine' Mine.list_len_call ?k1 ?k2 ?k3 ?_; (case k1 => k_asm); (case k2 => run_tac Mine.memT); (case k3 => exact Mine.acc_at (by k_asm) (by run_tac Mine.memT)); intro tk') | (refine' Mine.list_init_call ?k1 ?k2 ?k3 ?k4 ?_; (case k1 => k_asm); (case k2 => k_asm); (case k3 => run_tac Mine.memT); (case k4 => k_upd); intro h' F' N'))))
  k_with "@lines@callWith ref nil nil" => ((k_here; (with_reducible show wpAny _ _ (callWith _ (Value.ref _) _ (backTo _ (starEach [] _)) []) _ _ _); k_dflt (refine' Mine.callWith_W0 ?k1 ?k2 ?k3 ?_; (case k1 => k_asm); (case k2 => run_tac Mine.memT); (case k3 => decide); k_whole); (try dsimp only [List.nil_append])))
  k_with "@lines@wpAt" => ((ks_step "exec Expr"; with_unfolding_all refine ks_wpAt_Expr_any ?_))
  k_with "@lines@wpAt" => ((ks_step "eval Call"; with_unfolding_all refine ks_wpAt_MethodCall ?_))
  k_with "@lines@eval Name" => ((k_here; (with_reducible show wpAny _ _ (eval (Expr.Name _ _) (genEnv _ _ _ _ _ _)) _ _ _); k_dflt (first | (refine' Mine.ldG ?k1 ?k2 ?_ ?k3 ?k4 ?k5; (case k1 => k_asm); (case k2 => assumption); (case k3 => rfl); (case k4 => rfl); (case k5 => decide)) | (refine' Mine.nameKG ?k1 ?k2 ?k3 ?k4 ?k5 ?_ ?k8 ?k9 ?k10; (case k1 => k_asm); (case k2 => k_asm); (case k3 => k_asm); (case k4 => rfl); (case k5 => k_is); (case k8 => rfl); (case k9 => rfl); (case k10 => decide)) | (refine' Mine.nameBG ?k1 ?k2 ?k3 ?k4 ?k5 ?k6 ?k7 ?_ ?k8 ?k9 ?k10; (case k1 => k_asm); (case k2 => k_asm); (case k3 => k_asm); (case k4 => rfl); (case k5 => k_is); (case k6 => boot_by_name); (case k7 => decide); (case k8 => rfl); (case k9 => rfl); (case k10 => decide)))))
  k_with "@lines@getAttr ref" => ((k_here; (with_reducible show wpAny _ _ (getAttr (Value.ref _) (PySem.Str.ofString "_initial_size") _) _ _ _); k_dflt (refine' Mine.acc_get ?k1 ?k2 ?k3 ?k4 ?k5 ?k6 ?k7 ?k8 ?k9 ?k10 ?k11 ?_; (case k1 => k_asm); (case k2 => k_asm); (case k3 => (refine' Mine.InstAt.of_newsA ?iN ?ih1 ?ih2 ?ih3; (case iN => k_asm); (case ih1 => run_tac Mine.memT); (case ih2 => run_tac Mine.memT); (case ih3 => exact rfl))); (case k4 => k_is); (case k5 => k_is); (case k6 => k_is); (case k7 => k_is); (case k8 => k_is); (case k9 => k_is); (case k10 => k_get); (case k11 => k_handed))))
  k_with "@lines@getMethod ref" => ((k_here; k_dflt (refine' Mine.acc_methodF (ga := "list.__getattribute__") ?k1 ?k2 ?k3 ?kc ?k4 ?k5 ?k6 ?k7 ?_; (case k1 => k_in); (case k2 => (refine' Mine.InstAt.of_newsA ?iN ?ih1 ?ih2 ?ih3; (case iN => k_asm); (case ih1 => run_tac Mine.memT); (case ih2 => run_tac Mine.memT); (case ih3 => exact rfl))); (case k3 => k_is); (case kc => exact Mine.canon_list_ga); (case k4 => k_is); (case k5 => k_is); (case k6 => k_is); (case k7 => exact rfl); k_whole)))
  k_with "@lines@call ref" => ((k_here; (with_reducible show wpAny _ _ (call (Value.ref _) []) _ _ _); k_dflt (refine' Mine.list_pop_call ?k1 ?k2 ?k3 ?k4 ?k5 ?k6 ?k7 ?k8 ?k9 ?k10 ?k11 ?_; (case k1 => k_asm); (case k2 => k_asm); (case k3 => k_asm); (case k4 => run_tac Mine.memT); (case k10 => k_upd); (case k5 => run_tac Mine.memT); (case k6 => k_is); (case k7 => exact rfl); (case k8 => exact rfl); (case k9 => k_is); (case k11 => assumption); intro h' F' N')))
  k_with "@lines@wpAt" => (((try dsimp only); ks_step "execs cons"; refine ks_wpAt_execs_cons ?_))
  k_with "@lines@subscriptTail" => ((k_here; (with_reducible show wpAny _ _ (subscriptTail _ _ (Value.ref _) (Value.ref _)) _ _ _); k_dflt (refine' Mine.acc_slice ?k1 ?k2 ?k3 ?k4 ?k5 ?k6 ?k7 ?k8 ?k9 ?k10 ?_ ?k11 ?k12 ?k13; (case k1 => k_asm); (case k2 => k_asm); (case k3 => k_asm); (case k4 => run_tac Mine.memT); (case k5 => run_tac Mine.memT); (case k6 => constructor); (case k7 => constructor); (case k8 => k_is); (case k9 => k_is); (case k10 => k_is); (case k11 => with_unfolding_all rfl); (case k12 => intro _; with_unfolding_all rfl); (case k13 => assumption)); intro h' F' N' l1; (try k_lt l1)))
  k_with "@lines@setItem ref" => ((k_here; k_dflt (refine' Mine.acc_setslice ?k1 ?k2 ?k3 ?k4 ?k5 ?k6 ?k7 ?k8 ?k9 ?k10 ?k11 ?k12 ?k13 ?k14 ?k15 ?k16 ?k17 ?_; (case k1 => k_asm); (case k2 => k_asm); (case k3 => k_asm); (case k4 => run_tac Mine.memT); (case k5 => run_tac Mine.memT); (case k6 => run_tac Mine.memT); (case k7 => k_ne); (case k8 => constructor); (case k9 => constructor); (case k10 => k_is); (case k11 => k_is); (case k12 => k_is); (case k13 => assumption); (case k14 => k_upd); (case k15 => assumption); (case k16 => first | assumption | decide); (case k17 => rfl)); intro h' F' N'))
  k_with "@lines@exec While Compare" => ((k_here; refine wpAny_While ?_))
  k_with "@lines@call builtin:len" => ((k_here; (with_reducible show wpAny _ _ (call (Value.builtin "len") [Value.ref _]) _ _ _); k_dflt (refine' PyProof.Rows.len_list ?k1 ?k2 ?_; (case k1 => exact News.isList (by k_asm) (by run_tac Mine.memT)); (case k2 => omega))))
  k_with "@lines@callWith ref" => ((k_here; k_dflt (refine' Mine.callWith_fn ?k1 ?_; (case k1 => assumption))))
  k_with "@lines@And" => ((k_here; k_dflt (refine' And.intro ?k1 ?_; (case k1 => exact Mine.FnAt.of (by k_asm) (by assumption)))))
  k_with "@lines@subscriptTail" => ((k_here; (with_reducible show wpAny _ _ (subscriptTail _ _ (Value.ref _) (Value.int _ _)) _ _ _); k_dflt ((try rw [Mine.mid_fdiv]); refine' PyProof.Rows.item_list ?k1 ?k2 ?k3 ?k4 ?_; (case k1 => exact News.isList (by k_asm) (by run_tac Mine.memT)); (case k2 => omega); (case k3 => omega); (case k4 => assumption))))
  k_with "@lines@truthy ref" => ((k_here; k_dflt (refine' PySem.wpAny_truthy_list ?k1 ?k2 ?_; (case k1 => exact News.isList (by k_asm) (by run_tac Mine.memT)); (case k2 => first | decide | omega | (show ((1 : Nat) : Int) < 2 ^ 63; decide)))))
  k_with "@lines@subscriptTail" => ((k_here; (fail_if_success (with_reducible show wpAny _ _ (subscriptTail (PySem.Expr.Name _ _) _ _ _) _ _ _)); k_dflt (refine kba_turn (value' := PySem.Expr.Name (PySem.Str.ofString "_") ⟨0, 0, 0, 0⟩) (fun _ => rfl) ?_)))
  k_with "@lines@callWith ref" => ((k_here; first | ((with_reducible show wpAny _ _ (callWith _ (Value.ref _) _ (backTo _ (starEach (_ :: _) _)) []) _ _ _); k_dflt (refine' callWith_K ?k1 ?k2 ?_; (case k1 => k_asm); (case k2 => k_is); k_whole)) | ((with_reducible show wpAny _ _ (callWith _ (Value.ref _) _ (backTo _ (starEach [] _)) []) _ _ _); k_dflt (refine' callWith_K0 ?k1 ?k2 ?_; (case k1 => k_in); (case k2 => k_is); k_whole); (try dsimp only [List.nil_append, List.cons_append])) | ((with_reducible show wpAny _ _ (callWith _ (Value.ref _) _ (backTo _ (starEach (_ :: _) _)) (backToKw _ (keywordEach _ _))) _ _ _); k_dflt (refine' callWith_KW ?k1 ?k2 ?k3 ?_; (case k1 => k_asm); (case k2 => k_is); (case k3 => exact rfl); k_whole))))
  trivial
theorem Mine.use_M11 : True := by
  w_top off
  run_tac Mine.use ["linesP", "lines", "linesZZ"]
  trivial
namespace Mine
theorem part_c {w : World} {A₀ : Around} {base h₀ : Heap} {outer : List Env} {env : Env} {L : Addr} {m : Str → Option Value} {s : Shared} {news : List (Addr × Obj)} {lo me} {mg mb} {R : Result → Shared → Prop} {d u : Nat} {gd : Option (List Code)}
 {a dx : Addr} {items : Array Value} {n : Nat} {ti : Tok} {iv : Value}
 (B : Below A₀ base outer h₀) (F : Fr h₀ L s.heap m) (X : (Mine.hd.heap_39 w.params).In h₀) (N : News h₀ L s.heap news) (T : Top topProg lo me mg mb h₀) (hf : env.frame = some L) (hke : env.scope.kind = .function) (hd : d < 900) (hu : u < 900)
 (ha : (a, accO dx items n) ∈ news) (hda : (dx, iniD w ti iv) ∈ news)
 (h : ∀ h' tk tk', Fr h₀ L h' m → News h₀ L h' news → R (.ok (.ret (.int items.size tk))) (St s h' s.gens tk')) :
 codeAny (model Challenge.rw_if0017_01.row.prog w) (Around.mk none d (some (env :: outer)) gd u) (.call (.ref 142) ⟨[.ref a], []⟩) R s := by
  refine @Mine.sqz _ ?zmain ?zfin
  case zmain =>
    revert X; k_fill; intro X
    k_data
    k_steps
    exact h _ _ _ (by assumption) (by first | assumption | exact News.tail' (by assumption) | exact News.tail' (News.tail' (by assumption)))
  case zfin => run_tac Mine.sq
end Mine

theorem Mine.use_M22 : True := by
  w_top off
  run_tac Mine.use ["linesP", "linesZZ"]
  trivial
namespace Mine
section
variable {K : Frag} {s : Shared}
/-- a tree that only looks: what it gives -/
noncomputable def Run {α : Type} (s : Shared) (t : Sem α) (b : α) : Prop := ∀ (M : Model) (A : Around) (E : Value → Shared → Prop) (Q : α → Shared → Prop), Q b s → wpAny M A t Q E s
theorem Run.done {α : Type} {t : Sem α} {b : α} (e : t = pure b) : Run s t b := fun _ _ _ _ q => e ▸ wpAny_pure q
theorem Run.ns {t : Sem (Option Value)} {D : Addr} {name : Str} {v : Value} (X : K.In s.heap) (e : t = nsGet D name) (hk : nsIn K D name = some (some v)) : Run s t (some v) := fun M A E Q q => e ▸ (looks_nsIn X hk).here q
theorem Run.seq {t : Sem (Option (Array Value))} {T : Addr} {o : Obj} {items : Array Value} {n : Nat} (X : K.In s.heap) (e : t = seqItems? (.ref T)) (ho : K.lookup T = some o) (hs : o.data = .seq items n) : Run s t (some items) := fun M A E Q q => e ▸ wpAny_seqItems (X _ _ ho) hs q
theorem Run.andThen {α β : Type} {t : Sem β} {u : Sem α} {f : α → Sem β} {a : α} {b : β} (e : t = u >>= f) (h1 : Run s u a) (h2 : Run s (f a) b) : Run s t b := fun M A E Q q => e ▸ wpAny_bind (h1 M A E _ (h2 M A E Q q))
theorem Run.binds {fd : FuncData} {args : Args} {b : List (Str × Value)} (r : Run s (bindArgs fd args) b) : BindsTo s fd args b := fun M A E Q q => r M A E Q q
end
end Mine

theorem Mine.use_M23 : True := by
  w_top off
  run_tac Mine.use ["linesP", "linesZZ"]
  trivial
namespace Mine
theorem kl_ins_nat (l : List Value) (k : Nat) (v : Value) (hk : k ≤ l.length) : kl_ins l ((k : Nat) : Int) v = l.take k ++ v :: l.drop k := by
  unfold kl_ins
  have h1 : ¬ ((k : Nat) : Int) < 0 := by omega
  simp [h1, Nat.min_eq_left hk]
section
variable {prog : Program} {w : World} {A : Around} {E : Value → Shared → Prop} {s : Shared} {h₀ : Heap} {L a : Addr} {m : Str → Option Value} {news news' : List (Addr × Obj)}
theorem insert_K {items : Array Value} {n k : Nat} {kt : Tok} {v : Value} {Q : Value → Shared → Prop} (F : Fr h₀ L s.heap m) (N : News h₀ L s.heap news) (hk : k ≤ items.size) (hz : items.size ≤ 100)
    (U : Upd a (W.listOf items n) (W.listOf (items.toList.take k ++ v :: items.toList.drop k).toArray (n + 1)) news news')
    (h : ∀ h', Fr h₀ L h' m → News h₀ L h' news' → Q .none { s with heap := h' }) : wpAny (model prog w) A (call (.builtin "list.insert") [.ref a, .int (k : Nat) kt, v]) Q E s :=
  kl_insert F N (by simp only [Builtin.List.listFitsIndex, Bool.and_eq_true, decide_eq_true_eq]; omega) (kl_ins_nat _ k v (by simpa using hk)) U (by simpa using Nat.le_trans hz (by decide)) h
end
theorem bisL_le (f : Nat → Int) (x : Int) : ∀ k lo hi, lo ≤ hi → bisL f x k lo hi ≤ hi
  | 0, _, _, h => h
  | k + 1, lo, hi, h => by
    unfold bisL
    split
    · split
      · exact bisL_le f x k _ _ (by omega)
      · exact Nat.le_trans (bisL_le f x k _ _ (by omega)) (by omega)
    · exact h
end Mine

theorem Mine.use_M24 : True := by
  w_top off
  run_tac Mine.use ["linesP", "linesZZ"]
  trivial
namespace Mine
section
variable {prog : Program} {w : World} {A : Around} {E : Value → Shared → Prop} {R : Result → Shared → Prop} {I : Addr} {fp wr : List Addr} {G : Array GenState → Array GenState → Prop} {P : Nat → Value → Prop} {St : Nat → Shared → Prop}
theorem set_loop_one (W : WalksS prog w A.in1 I fp wr G 1 P St) (S : Addr) (hSf : S ∉ fp) {x : Str} (hval : ∀ v, P 0 v → ∃ t, v = .str x t) {s : Shared} (hst : St 0 s) (hS : s.heap.SetOf (strKind prog w) S (fun _ => false) 0)
    (hR : ∀ s', Moved (S :: wr) G s s' → s'.heap.SetOf (strKind prog w) S (fun k' => decide (k' = x)) 1 → R (.ok (.ret .none)) s') :
    codeAny (model prog w) A (.builtin "set.update.loop" ⟨[.ref S, .ref I], []⟩) R s := by
  refine @Mine.sqz _ ?zmain ?zfin
  case zmain =>
    have hSw : S ∉ wr := fun h => hSf (W.sub _ h)
    have hsub : ∀ b ∈ wr, b ∈ S :: wr := fun b hb => List.mem_cons_of_mem _ hb
    refine codeAny_builtin PyProof.Rows.F.entry_set_update_loop ?_
    rw [Around.under_plainId PyProof.Rows.F.plain_set_update_loop _]
    show wpAny _ A.in1 (pyNext (.ref I) >>= _) _ _ s
    refine wpAny_bind (W.item 0 s _ _ (Nat.lt_succ_self 0) hst fun v s' hP hst' hm => ?_)
    obtain ⟨t, rfl⟩ := hval v hP
    have hS' : s'.heap.SetOf (strKind prog w) S (fun _ => false) 0 := by
      obtain ⟨o, es, ep, tb, ho, rest⟩ := hS
      exact ⟨o, es, ep, tb, hm.heap S _ hSw ho, rest⟩
    show wpAny _ A.in1 (holding [Value.str x t] (setAdd S (.str x t)) >>= _) _ _ s'
    refine wpAny_bind (wpAny_holding ?_)
    unfold setAdd
    refine wpAny_holding ?_
    refine wpAny_bind ((strKind prog w).pyHash (k := x) (strKind_is _ _ _ _) ?_)
    refine wpAny_setAddHashed_of (knd := strKind prog w) (s := { s' with toks := s'.toks + 1 }) (strKind_is _ _ _ _) rfl hS' (by unfold scanBound; omega) fun h' hsb hS2 => ?_
    refine wpAny_pure ⟨plainId_quiet PyProof.Rows.F.plain_set_update_loop _, ?_⟩
    have hst2 := W.frame 1 s' h' (s'.toks + 1) hst' (Nat.le_succ _) fun b hb o e => by
      rw [hsb.2 b (fun h : b = S => hSf (by rw [← h]; exact hb))]; exact e
    have hm2 : Moved (S :: wr) G s { s' with heap := h', toks := s'.toks + 1 } := (hm.mono hsub).then_heap (Nat.le_succ _) fun b o hb e => by
      rw [hsb.2 b (fun h : b = S => hb (by rw [h]; exact List.mem_cons_self))]; exact e
    refine codeAny_builtin PyProof.Rows.F.entry_set_update_loop ?_
    rw [Around.under_plainId PyProof.Rows.F.plain_set_update_loop _]
    show wpAny _ A.in1 (pyNext (.ref I) >>= _) _ _ _
    refine wpAny_bind (W.done _ _ _ hst2 fun s3 hm3 => ?_)
    show wpAny _ A.in1 (ret Value.none) _ _ s3
    refine wpAny_pure (hR s3 (Moved.trans W.gtrans hm2 (hm3.mono hsub)) ?_)
    have hS3 := SetOf_congr hS2 (S' := fun k' => decide (k' = x)) (n' := 1) (fun k' => by simp) (by simp)
    obtain ⟨o, es, ep, tb, ho, rest⟩ := hS3
    exact ⟨o, es, ep, tb, hm3.heap S _ hSw ho, rest⟩
  case zfin => run_tac Mine.sq
end
section
variable {prog : Program} {w : World} {A : Around} {E : Value → Shared → Prop} {s : Shared}
theorem set_one {l : Addr} {x : Str} {t : Tok} {Q : Value → Shared → Prop} (hh : A.handled = none) (hl : s.heap.IsList l #[.str x t])
    (h : ∀ (h' : Heap) (tk : Nat), h'.SetOf (strKind prog w) s.heap.objs.size (fun k' => decide (k' = x)) 1 → (∀ b o, b < s.heap.objs.size → s.heap.get? b = some o → h'.get? b = some o) → Q (.ref s.heap.objs.size) { s with heap := h', toks := tk }) :
    wpAny (model prog w) A (call (.type "set") [.ref l]) Q E s := by
  refine @Mine.sqz _ ?zmain ?zfin
  case zmain =>
    obtain ⟨c, tl, hmro⟩ := PySem.F.called_set.mro
    have hmade := PySem.F.called_set.made
    have hsub := PySem.F.called_set.sub
    refine wpAny_call (codeAny_of_tree ?_)
    show wpAny _ _ (callAny (.type "set") _) _ _ _
    refine wpAny_pure ⟨Code.quiet_builtin _ (by decide +kernel), codeAny_builtin PySem.F.entry_type_call ?_⟩
    rw [Around.under_plain (weight_type_call_type "set" [.ref l] []) rfl]
    have h1 := PySem.F.called_set.notType
    have h2 := PySem.F.called_set.canCreate
    have hct := PySem.F.typeCall_set_1 (.ref l)
    repeat (any_goals (first | assumption | wp_step))
    refine codeAny_mono (code_set_new_1 (.ref l) (E := E) (Q₁ := fun obj s₁ => ∃ led : Bool, obj = .ref s.heap.objs.size ∧ s₁ = { s with heap := s.heap.push { cls := .type "set", dict := none, data := .set #[] 0 (.fresh 0 0 led) } }) fun led => ⟨led, rfl, rfl⟩) fun r s₁ hr => ?_
    cases r with
    | error e => exact hr
    | ok fl =>
      cases fl with
      | ret obj =>
        obtain ⟨led, rfl, rfl⟩ := hr
        have hS : (s.heap.push { cls := .type "set", dict := none, data := .set #[] 0 (.fresh 0 0 led) }).get? s.heap.objs.size = some { cls := .type "set", dict := none, data := .set #[] 0 (.fresh 0 0 led) } := Heap.get?_push_size _ rfl
        have hT : Shared.TypeIs { s with heap := s.heap.push { cls := .type "set", dict := none, data := .set #[] 0 (.fresh 0 0 led) } } (.ref s.heap.objs.size) "set" := ⟨_, hS, rfl⟩
        have hli := PySem.F.called_set.init.lookup
        have hbi := PySem.F.called_set.init.bind (.ref s.heap.objs.size)
        repeat (any_goals (first | assumption | wp_step))
        refine codeAny_mono (codeAny_call_builtin (R := wants (fun r s₂ => r = .none ∧ ∃ h' tk, s₂ = { s with heap := h', toks := tk } ∧
            h'.SetOf (strKind prog w) s.heap.objs.size (fun k' => decide (k' = x)) 1 ∧
            (∀ b o, b < s.heap.objs.size → s.heap.get? b = some o → h'.get? b = some o)) E) PySem.F.called_set.init.plain PySem.F.entry_set_init (check_set_init_1 hT ?_)) fun r₂ s₂ hr₂ => ?_
        · obtain ⟨ol, hol, hcl, nl, hdl⟩ := hl
          obtain ⟨ocls, odict, odata, oslots⟩ := ol
          simp only at hcl hdl
          subst hcl; subst hdl
          have hol' : (s.heap.push { cls := .type "set", dict := none, data := .set #[] 0 (.fresh 0 0 led) }).get? l = some { cls := .type "list", dict := odict, data := .seq #[.str x t] nl, slots := oslots } := Heap.get?_push_of_some _ hol
          have hsls := PySem.F.sub_list_set
          have hslf := PySem.F.sub_list_frozenset
          have hne : (Value.type "list" == Value.type "dict") = false := by decide
          have hl1 : (s.heap.push { cls := .type "set", dict := none, data := .set #[] 0 (.fresh 0 0 led) }).IsList l #[.str x t] := ⟨_, hol', rfl, nl, rfl⟩
          unfold Builtin.«set.__init__» noKeywords Builtin.Frozenset.updateFrom
          generalize hPI : pyIter = PI
          wp_walk
          subst hPI
          refine wpAny_pyIter_list hl1 ?_
          refine wpAny_bind (wpAny_runValue ?_)
          have hlS : l < s.heap.objs.size := Heap.lt_size hol
          have hh3 : A.in1.in1.in1.handled = none := by simp [hh]
          have hneI : l ≠ (s.heap.push { cls := .type "set", dict := none, data := .set #[] 0 (.fresh 0 0 led) }).objs.size := by
            rw [Heap.size_push]; exact Nat.ne_of_lt (Nat.lt_succ_of_lt hlS)
          have hSf : s.heap.objs.size ∉ [(s.heap.push { cls := .type "set", dict := none, data := .set #[] 0 (.fresh 0 0 led) }).objs.size, l] := by
            rw [Heap.size_push]; simp only [List.mem_cons, List.mem_singleton, List.not_mem_nil, or_false, not_or]
            exact ⟨Nat.ne_of_lt (Nat.lt_succ_self _), Nat.ne_of_gt hlS⟩
          refine set_loop_one ((Walks.list hh3 _ l hneI #[.str x t]).toS) s.heap.objs.size hSf (x := x) (fun v hv => ⟨t, (Option.some.inj hv).symm⟩)
            ⟨⟨_, Heap.get?_push_size _ rfl, rfl, rfl⟩, (hl1.push _)⟩ ?hS0 ?hR
          case hS0 =>
            have hget : ((s.heap.push { cls := .type "set", dict := none, data := .set #[] 0 (.fresh 0 0 led) }).push { cls := .type "list_iterator", data := .fields #[.ref l, .int 0 0] }).get? s.heap.objs.size
                = some { cls := .type "set", dict := none, data := .set #[] 0 (.fresh 0 0 led) } := Heap.get?_push_of_some _ hS
            exact (setObjOf_fresh (knd := strKind prog w) led).setOf hget (by unfold scanBound; omega)
          case hR =>
            intro s' hm hS'
            obtain ⟨h', g', d', tk', os'⟩ := s'
            have eg : g' = s.gens := hm.gens
            have ed : d' = s.drawn := hm.drawn
            have eo : os' = s.os := hm.os
            subst eg; subst ed; subst eo
            show wpAny _ _ _ _ _ _
            refine wpAny_pure ?_
            show wpAny _ _ (ret Value.none) _ _ _
            refine wpAny_pure ⟨rfl, h', tk', rfl, hS', fun b o hb e => ?_⟩
            have hb1 : b ≠ s.heap.objs.size := Nat.ne_of_lt hb
            have hb2 : b ≠ (s.heap.push { cls := .type "set", dict := none, data := .set #[] 0 (.fresh 0 0 led) }).objs.size := by
              rw [Heap.size_push]; exact Nat.ne_of_lt (Nat.lt_succ_of_lt hb)
            exact hm.heap b o (by simp only [List.mem_cons, List.mem_singleton, List.not_mem_nil, or_false, not_or]; exact ⟨hb1, hb2⟩) (Heap.get?_push_of_some _ (Heap.get?_push_of_some _ e))
        · cases r₂ with
          | error e => exact hr₂
          | ok fl₂ =>
            cases fl₂ with
            | ret r =>
              obtain ⟨rfl, h', tk, rfl, hS', hk'⟩ := hr₂
              repeat (any_goals (first | assumption | wp_step))
              exact h _ _ hS' hk'
            | _ => exact hr₂.elim
      | _ => exact hr.elim
  case zfin => run_tac Mine.sq
end
section
variable {prog : Program} {w : World} {A : Around} {E : Value → Shared → Prop} {s : Shared} {h₀ : Heap} {L l : Addr} {m : Str → Option Value} {news : List (Addr × Obj)}
theorem set_one_K {x : Str} {t : Tok} {Q : Value → Shared → Prop} (hh : A.handled = none) (F : Fr h₀ L s.heap m) (N : News h₀ L s.heap news) (hl : s.heap.IsList l #[.str x t])
    (h : ∀ D h' tk o, Fr h₀ L h' m → News h₀ L h' ((D, o) :: news) → (∀ p ∈ news, p.1 < D) → o.SetObjOf (strKind prog w) (fun k' => decide (k' = x)) 1 → Q (.ref D) { s with heap := h', toks := tk }) :
    wpAny (model prog w) A (call (.type "set") [.ref l]) Q E s := by
  refine @Mine.sqz _ ?zmain ?zfin
  case zmain =>
    refine set_one hh hl fun h' tk hS hk => ?_
    have hLs : L < s.heap.objs.size := F.ns.lt
    obtain ⟨o, ho, hso⟩ := hS.objOf
    refine h _ h' tk o ⟨F.ns.at fun o e => hk _ o hLs e, fun b o e => hk b o (Heap.lt_size (F.keep b o e)) (F.keep b o e), F.above⟩ (fun p hp => ?_) (fun p hp => Heap.lt_size (N p hp).1) hso
    rcases List.mem_cons.mp hp with rfl | hp
    · exact ⟨ho, Nat.ne_of_gt hLs, Heap.get?_none_of_le (Nat.le_trans F.above (Nat.le_of_lt hLs))⟩
    · exact ⟨hk _ _ (Heap.lt_size (N p hp).1) (N p hp).1, (N p hp).2⟩
  case zfin => run_tac Mine.sq
end
end Mine

theorem Mine.use_M25 : True := by
  w_top off
  run_tac Mine.use ["linesP", "linesZZ"]
  trivial
namespace Mine
noncomputable def strOfV : Value → Str
  | .str x _ => x
  | _ => ""
theorem keysLit_pairs {prog : Program} {w : World} : ∀ {l : List DictEntry}, KeysLit w.params l → PySem.Pairs (strKind prog w) l (l.map fun e => (strOfV e.key, e.val))
  | [], _ => .nil
  | e :: l, h => by
    obtain ⟨x, t, e1, e2⟩ := h.all e (.head _)
    have h' : KeysLit w.params l := h.2
    exact .cons (by show (strKind prog w).is (strOfV e.key) e.key = true; rw [e1]; exact strKind_is prog w x t) rfl (keysLit_pairs h')
section
variable {prog : Program} {w : World} {A : Around} {E : Value → Shared → Prop} {s : Shared} {K : Frag} {h₀ h : Heap} {L d v : Addr} {m : Str → Option Value} {news : List (Addr × Obj)} {es : Array DictEntry} {n : Nat}
theorem dictK_of (X : K.In h) (hl : K.lookup d = some ⟨.type "dict", none, .dict es n, #[]⟩) (hk : KeysLit w.params es.toList) (hn : (es.toList.map fun e => strOfV e.key).Nodup) :
    h.DictOf (strKind prog w) d (es.toList.map fun e => (strOfV e.key, e.val)) :=
  ⟨_, es, n, X _ _ hl, ⟨rfl, rfl, rfl⟩, rfl, fun e he => by
    obtain ⟨x, t, e1, e2⟩ := hk.all e (Array.mem_toList_iff.mpr he)
    exact ⟨x, by rw [e1]; exact strKind_is prog w x t, e2⟩, keysLit_pairs hk, by rw [List.map_map]; exact hn⟩
theorem items_method_K {pl : Sem Bool} {Q : Value × List Value → Shared → Prop} (F : Fr h₀ L s.heap m) (X : K.In h₀) (hl : K.lookup d = some ⟨.type "dict", none, .dict es n, #[]⟩) (hk : KeysLit w.params es.toList) (hn : (es.toList.map fun e => strOfV e.key).Nodup)
    (h : Q (.builtin "dict.items", [.ref d]) s) : wpAny (model prog w) A (getMethod (.ref d) "items" pl) Q E s :=
  have hD := dictK_of (prog := prog) (X.keeps F.keep) hl hk hn
  getMethod_builtin hD.typeIs PySem.F.plainAttrs_dict PySem.F.slot_dict_items PySem.F.type_dict_items hD.mapOf.noDict h
theorem items_view_K {Q : Value → Shared → Prop} (F : Fr h₀ L s.heap m) (X : K.In h₀) (N : News h₀ L s.heap news) (hl : K.lookup d = some ⟨.type "dict", none, .dict es n, #[]⟩) (hk : KeysLit w.params es.toList) (hn : (es.toList.map fun e => strOfV e.key).Nodup) (lo : (d == sysModules) = false)
    (h : ∀ (D : Addr) h', Fr h₀ L h' m → News h₀ L h' ((D, { cls := .type "dict_items", data := .fields #[.ref d] }) :: news) → (∀ q ∈ news, q.1 < D) → Q (.ref D) { s with heap := h' }) :
    wpAny (model prog w) A (call (.builtin "dict.items") [.ref d]) Q E s :=
  have hD := dictK_of (prog := prog) (X.keeps F.keep) hl hk hn
  call_meetsIn PySem.F.slot_dict_items hD.typeIs PySem.F.entry_dict_items (PySem.F.args_dict_items_1 _) (meets_dict_items _ d lo) ⟨⟨_, hD⟩, h _ _ (F.push _) (News.push F N _) fun q hq => Heap.lt_size (N q hq).1⟩
theorem items_list_K {Q : Value → Shared → Prop} (hh : A.handled = none) (F : Fr h₀ L s.heap m) (X : K.In h₀) (N : News h₀ L s.heap ((v, { cls := .type "dict_items", data := .fields #[.ref d] }) :: news)) (hl : K.lookup d = some ⟨.type "dict", none, .dict es n, #[]⟩) (hk : KeysLit w.params es.toList) (hn : (es.toList.map fun e => strOfV e.key).Nodup) (hz : es.toList.length ≤ 100)
    (h : ∀ (B : Addr) h' tk its c, Fr h₀ L h' m → News h₀ L h' ((B, W.listOf its c) :: news) → (∀ q ∈ news, q.1 < B) → Q (.ref B) { s with heap := h', toks := tk }) :
    wpAny (model prog w) A (call (.type "list") [.ref v]) Q E s := by
  refine @Mine.sqz _ ?zmain ?zfin
  case zmain =>
    have hD := dictK_of (prog := prog) (X.keeps F.keep) hl hk hn
    obtain ⟨o, es', ep, ho, r1, r2, r3, r4, r5⟩ := hD
    refine kdx_call (knd := strKind prog w) (kvs := es.toList.map fun e => (strOfV e.key, e.val)) (ep := ep) hh ⟨_, (N _ (.head _)).1, rfl, rfl⟩ ⟨o, es', ho, r1, r2, r3, r4, r5⟩ (by rw [List.length_map, sizeLine_eq]; omega) fun h' tk acc c as hk' hS hl' hG hacc => ?_
    refine h _ h' tk acc c (F.keeps hk') (fun q hq => ?_) (fun q hq => Heap.lt_size (N q (.tail _ hq)).1)
    rcases List.mem_cons.mp hq with rfl | hq
    · exact ⟨hS, kdx_fresh F (Nat.le_refl _)⟩
    · exact ⟨hk' _ _ (N q (.tail _ hq)).1, (N q (.tail _ hq)).2⟩
  case zfin => run_tac Mine.sq
end
end Mine

theorem Mine.use_M26a : True := by
  w_top off
  run_tac Mine.use ["linesP", "linesZZ"]
  trivial
namespace Mine
theorem allLt_mem {d : Addr} : ∀ {l : List (Addr × Obj)}, AllLt d l → ∀ p ∈ l, p.1 < d
  | [], _, _, h => (nomatch h)
  | _ :: _, x, p, h => by
    rcases List.mem_cons.mp h with rfl | h
    · exact x.1
    · exact allLt_mem x.2 p h
end Mine

theorem Mine.use_M27 : True := by
  w_top off
  run_tac Mine.use ["linesP", "linesZZ"]
  trivial
namespace Mine
structure WT where
  (a0 a1 a2 a3 a4 a5 a6 a7 a8 a9 a10 a11 a12 a13 a14 a15 a16 a17 : Tok)
noncomputable abbrev wEnt (w : World) (k : Str) (t : Tok) (v : Value) : DictEntry := ⟨PyData.keyHash w.params k, .str k t, v⟩
noncomputable abbrev wrL (w : World) (t : WT) (wf dl es ds ns pm pr : Addr) (rs rd : Bool) (ig : Int) (ti : Tok) : List DictEntry :=
  [wEnt w (Str.ofString "_write") t.a0 (.ref wf), wEnt w (Str.ofString "_data") t.a1 (.ref dl), wEnt w (Str.ofString "_with_comments") t.a2 (.bool false), wEnt w (Str.ofString "_strip_text") t.a3 (.bool false), wEnt w (Str.ofString "_exclude_attrs") t.a4 .none, wEnt w (Str.ofString "_exclude_tags") t.a5 (.ref es), wEnt w (Str.ofString "_rewrite_prefixes") t.a6 (.bool false), wEnt w (Str.ofString "_qname_aware_tags") t.a7 .none, wEnt w (Str.ofString "_find_qname_aware_attrs") t.a8 .none, wEnt w (Str.ofString "_declared_ns_stack") t.a9 (.ref ds), wEnt w (Str.ofString "_ns_stack") t.a10 (.ref ns), wEnt w (Str.ofString "_prefix_map") t.a11 (.ref pm), wEnt w (Str.ofString "_preserve_space") t.a12 (.ref pr), wEnt w (Str.ofString "_pending_start") t.a13 .none, wEnt w (Str.ofString "_root_seen") t.a14 (.bool rs), wEnt w (Str.ofString "_root_done") t.a15 (.bool rd), wEnt w (Str.ofString "_ignored_depth") t.a16 (.int ig ti)]
noncomputable abbrev wrD0 (w : World) (t : WT) (wf dl es ds ns pm pr : Addr) (ti : Tok) : Obj := W.dictOf (wrL w t wf dl es ds ns pm pr false false 0 ti) 17
noncomputable abbrev wrD (w : World) (t : WT) (wf dl es ds ns pm pr itf : Addr) (rs rd : Bool) (ig : Int) (ti : Tok) : Obj := W.dictOf [wEnt w (Str.ofString "_write") t.a0 (.ref wf), wEnt w (Str.ofString "_data") t.a1 (.ref dl), wEnt w (Str.ofString "_with_comments") t.a2 (.bool false), wEnt w (Str.ofString "_strip_text") t.a3 (.bool false), wEnt w (Str.ofString "_exclude_attrs") t.a4 .none, wEnt w (Str.ofString "_exclude_tags") t.a5 (.ref es), wEnt w (Str.ofString "_rewrite_prefixes") t.a6 (.bool false), wEnt w (Str.ofString "_qname_aware_tags") t.a7 .none, wEnt w (Str.ofString "_find_qname_aware_attrs") t.a8 .none, wEnt w (Str.ofString "_declared_ns_stack") t.a9 (.ref ds), wEnt w (Str.ofString "_ns_stack") t.a10 (.ref ns), wEnt w (Str.ofString "_prefix_map") t.a11 (.ref pm), wEnt w (Str.ofString "_preserve_space") t.a12 (.ref pr), wEnt w (Str.ofString "_pending_start") t.a13 .none, wEnt w (Str.ofString "_root_seen") t.a14 (.bool rs), wEnt w (Str.ofString "_root_done") t.a15 (.bool rd), wEnt w (Str.ofString "_ignored_depth") t.a16 (.int ig ti), wEnt w (Str.ofString "_iter_namespaces") t.a17 (.ref itf)] 18
noncomputable abbrev xmlTup (t1 t2 : Tok) : Obj := tupO [.str (Str.ofString "http://www.w3.org/XML/1998/namespace") t1, .str (Str.ofString "xml") t2]
noncomputable abbrev ExclB (w : World) (o : Obj) : Prop := o.SetObjOf (strKind Challenge.rw_if0017_01.row.prog w) (fun k' => decide (k' = Str.ofString "b")) 1
theorem news_drop3 {h₀ h : Heap} {L : Addr} {p1 p2 p3 p4 : Addr × Obj} {r : List (Addr × Obj)} (N : News h₀ L h (p1 :: p2 :: p3 :: p4 :: r)) : News h₀ L h (p1 :: r) := fun p hp => by
  rcases List.mem_cons.mp hp with rfl | hp
  · exact N _ (.head _)
  · exact N p (.tail _ (.tail _ (.tail _ (.tail _ hp))))
theorem set_in_mem {prog : Program} {w : World} {A : Around} {E : Value → Shared → Prop} {s : Shared} {h₀ : Heap} {L sa : Addr} {news : List (Addr × Obj)} {so : Obj} {S : Str → Bool} {n : Nat} {x : Str} {t : Tok} {Q : Value → Shared → Prop} (N : News h₀ L s.heap news) (hm : (sa, so) ∈ news) (hso : so.SetObjOf (strKind prog w) S n) (hb : n < scanBound)
    (h : Q (.bool (S x)) { s with toks := s.toks + 1 }) : wpAny (model prog w) A (compareOp .In (.str x t) (.ref sa)) Q E s := by
  obtain ⟨pre, post, rfl⟩ := List.append_of_mem hm
  exact in_sl1 N hso hb (strKind_is _ _ _ _) rfl h
end Mine

theorem Mine.row_clines : True := by
  k_with "@clines@call ref" => ((k_here; k_dflt (refine' wpAny_call (Mine.part_c ?cB ?cF ?cX ?cN ?cT ?cf ?ck ?cd ?cu ?ca ?cb ?_); (case cB => k_asm); (case cF => k_asm); (case cX => k_asm); (case cN => k_asm); (case cT => k_asm); (case cf => exact rfl); (case ck => exact rfl); (case cd => ((try dsimp only [Around.deeper, Around.in1]); first | exact Nat.lt_of_lt_of_le (by assumption) (by decide) | exact Nat.lt_of_lt_of_le (Nat.succ_lt_succ (by assumption)) (by decide) | exact Nat.lt_of_lt_of_le (Nat.succ_lt_succ (Nat.succ_lt_succ (by assumption))) (by decide) | omega)); (case cu => ((try dsimp only [Around.deeper, Around.in1]); first | exact Nat.lt_of_lt_of_le (by assumption) (by decide) | exact Nat.lt_of_lt_of_le (Nat.succ_lt_succ (by assumption)) (by decide) | exact Nat.lt_of_lt_of_le (Nat.succ_lt_succ (Nat.succ_lt_succ (by assumption))) (by decide) | omega)); (case ca => run_tac Mine.memT); (case cb => run_tac Mine.memT)); intro h' tk' t' F' N'))
  k_with "@clines@call ref" => ((k_here; k_dflt (refine' wpAny_call (Mine.KeySpec.use ?cS ?cB ?cF ?cX ?cN ?cT ?cf ?ck ?cd ?cu ?ck1 ?_); (case cS => assumption); (case cB => k_asm); (case cF => k_asm); (case cX => k_asm); (case cN => k_asm); (case cT => k_asm); (case cf => exact rfl); (case ck => exact rfl); (case cd => ((try dsimp only [Around.deeper, Around.in1]); first | exact Nat.lt_of_lt_of_le (by assumption) (by decide) | exact Nat.lt_of_lt_of_le (Nat.succ_lt_succ (by assumption)) (by decide) | exact Nat.lt_of_lt_of_le (Nat.succ_lt_succ (Nat.succ_lt_succ (by assumption))) (by decide) | omega)); (case cu => ((try dsimp only [Around.deeper, Around.in1]); first | exact Nat.lt_of_lt_of_le (by assumption) (by decide) | exact Nat.lt_of_lt_of_le (Nat.succ_lt_succ (by assumption)) (by decide) | exact Nat.lt_of_lt_of_le (Nat.succ_lt_succ (Nat.succ_lt_succ (by assumption))) (by decide) | omega)); (case ck1 => first | assumption | omega)); intro h' tk' t' F' N'))
  trivial
theorem Mine.use_M36 : True := by
  w_top off
  run_tac Mine.use ["linesP", "lines", "clines", "linesZZ"]
  trivial
namespace Mine
theorem bl_c {w : World} {A₀ : Around} {base h₀ : Heap} {outer : List Env} {env : Env} {L : Addr} {m : Str → Option Value} {s : Shared} {lo me} {mg mb} {R : Result → Shared → Prop} {d u : Nat} {gd : Option (List Code)}
 {a kf : Addr} {items : Array Value} {n : Nat} {news : List (Addr × Obj)} {x : Int} {xt t0 : Tok} {ks : List Nat} {val : Nat → Int} {dom : Nat}
 (B : Below A₀ base outer h₀) (F : Fr h₀ L s.heap m) (X : (Mine.hd.heap_39 w.params).In h₀) (N : News h₀ L s.heap news) (T : Top topProg lo me mg mb h₀) (hf : env.frame = some L) (hke : env.scope.kind = .function) (hd : d < 700) (hu : u < 700)
 (ha : (a, W.listOf items n) ∈ news) (hks : NatsIn items ks) (hdom : ∀ k ∈ ks, k < dom) (hfn : ∃ fo fd, (kf, fo) ∈ news ∧ fo.data = .func fd) (hkey : KeySpec w kf news val dom) (hz : ks.length ≤ 100) 
 (h : ∀ h' tk tk', Fr h₀ L h' m → News h₀ L h' news → R (.ok (.ret (.int (bisL (fun i => val (ks.getD i 0)) x (ks.length) 0 ks.length : Nat) tk))) (St s h' s.gens tk')) :
 codeAny (model Challenge.rw_if0017_01.row.prog w) (Around.mk none d (some (env :: outer)) gd u) (.call (.ref 65) ⟨[.ref a, .int x xt, .int 0 t0, .none], [(Str.ofString "key", .ref kf)]⟩) R s := by
  refine @Mine.sqz _ ?zmain ?zfin
  case zmain =>
    have hsz : items.size ≤ 100 := hks.1 ▸ hz
    have hlo0 : ¬ ((0 : Nat) : Int) < 0 := by omega
    revert X; k_fill; intro X
    k_data
    k_steps
    rename_i g1 L1 h1 FG B1 X1 T1 t8 t9 h2 F2 N2
    refine while_frame (BisI (fun k lo hi => bisL (fun i => val (ks.getD i 0)) x k lo hi) (bisL (fun i => val (ks.getD i 0)) x (ks.length) 0 ks.length) ks.length a x xt (.ref kf)) F2 N2 (n₀ := ks.length) ⟨ks.length, 0, ks.length, _, _, rfl, Nat.le_refl _, Nat.le_refl _, Nat.zero_le _, rfl, rfl, by rw [← hks.1]; rfl, rfl, rfl, rfl⟩ ?_
    rintro n' m' h' tk' E' ⟨k, lo', hi', t1, t2, rfl, hk, hhi, hlo, hg, m1, m2, m3, m4, m5⟩ F3 N3
    rw [BisI.map m1 m2 m3 m4 m5] at F3
    dsimp only [St]
    by_cases hlt : (lo' : Int) < (hi' : Int)
    · have hltn : lo' < hi' := Int.ofNat_lt.mp hlt
      have hmid : (lo' + hi') / 2 < ks.length := bs_mid hltn hhi
      obtain ⟨tm, hm⟩ := hks.at hmid
      have hdm : ks.getD ((lo' + hi') / 2) 0 < dom := by
        rw [List.getD_eq_getElem?_getD, List.getElem?_eq_getElem hmid]
        exact hdom _ (List.getElem_mem hmid)
      obtain ⟨k', rfl⟩ := bs_k hltn hk
      have hg2 : (if val (ks.getD ((lo' + hi') / 2) 0) < x then bisL (fun i => val (ks.getD i 0)) x k' ((lo' + hi') / 2 + 1) hi' else bisL (fun i => val (ks.getD i 0)) x k' lo' ((lo' + hi') / 2)) = bisL (fun i => val (ks.getD i 0)) x (ks.length) 0 ks.length := by
        rw [← hg]; exact (if_pos hltn).symm
      k_steps
      · rename_i ax hx FX NX
        rw [if_pos ax] at hg2
        exact ⟨_, _, _, hi' - ((lo' + hi') / 2 + 1), rfl, bs_u1 hltn, FX, NX, k', (lo' + hi') / 2 + 1, hi', _, _, rfl, bs_u2 hltn hk, hhi, hmid, hg2, congrArg (fun z => some (Value.int z _)) (by rw [mid_fdiv]; rfl), rfl, rfl, rfl, rfl⟩
      · rename_i ax hx FX NX
        rw [if_neg ax] at hg2
        exact ⟨_, _, _, (lo' + hi') / 2 - lo', rfl, bs_d1 hltn, FX, NX, k', lo', (lo' + hi') / 2, _, _, rfl, bs_d2 hltn hk, bs_d3 hltn hhi, hlo, hg2, rfl, congrArg (fun z => some (Value.int z _)) (by rw [mid_fdiv]), rfl, rfl, rfl⟩
    · k_steps
      rename_i kF kN Tc kX
      have e : bisL (fun i => val (ks.getD i 0)) x k lo' hi' = lo' := by
        cases k with
        | zero => rfl
        | succ k => exact if_neg fun c => hlt (Int.ofNat_lt.mpr c)
      have e2 := hg.symm.trans e
      rw [e2] at h
      exact h _ _ _ kF kN
  case zfin => run_tac Mine.sq
end Mine

theorem Mine.use_M37 : True := by
  w_top off
  run_tac Mine.use ["linesP", "lines", "clines", "linesZZ"]
  trivial
namespace Mine
theorem bl2_c {w : World} {A₀ : Around} {base h₀ : Heap} {outer : List Env} {env : Env} {L : Addr} {m : Str → Option Value} {s : Shared} {lo me} {mg mb} {R : Result → Shared → Prop} {d u : Nat} {gd : Option (List Code)}
 {a : Addr} {items : Array Value} {n : Nat} {news : List (Addr × Obj)} {x : Int} {xt t0 : Tok} {ks : List Int} 
 (B : Below A₀ base outer h₀) (F : Fr h₀ L s.heap m) (X : (Mine.hd.heap_39 w.params).In h₀) (N : News h₀ L s.heap news) (T : Top topProg lo me mg mb h₀) (hf : env.frame = some L) (hke : env.scope.kind = .function) (hd : d < 700) (hu : u < 700)
 (ha : (a, W.listOf items n) ∈ news) (hks : IntsIn items ks)  (hz : ks.length ≤ 100) 
 (h : ∀ h' tk tk', Fr h₀ L h' m → News h₀ L h' news → R (.ok (.ret (.int (bisL (fun i => (ks.getD i 0)) x (ks.length) 0 ks.length : Nat) tk))) (St s h' s.gens tk')) :
 codeAny (model Challenge.rw_if0017_01.row.prog w) (Around.mk none d (some (env :: outer)) gd u) (.call (.ref 65) ⟨[.ref a, .int x xt, .int 0 t0, .none], []⟩) R s := by
  refine @Mine.sqz _ ?zmain ?zfin
  case zmain =>
    have hsz : items.size ≤ 100 := hks.1 ▸ hz
    have hlo0 : ¬ ((0 : Nat) : Int) < 0 := by omega
    revert X; k_fill; intro X
    k_data
    k_steps
    rename_i g1 L1 h1 FG B1 X1 T1 t8 t9 h2 F2 N2
    refine while_frame (BisI (fun k lo hi => bisL (fun i => (ks.getD i 0)) x k lo hi) (bisL (fun i => (ks.getD i 0)) x (ks.length) 0 ks.length) ks.length a x xt .none) F2 N2 (n₀ := ks.length) ⟨ks.length, 0, ks.length, _, _, rfl, Nat.le_refl _, Nat.le_refl _, Nat.zero_le _, rfl, rfl, by rw [← hks.1]; rfl, rfl, rfl, rfl⟩ ?_
    rintro n' m' h' tk' E' ⟨k, lo', hi', t1, t2, rfl, hk, hhi, hlo, hg, m1, m2, m3, m4, m5⟩ F3 N3
    rw [BisI.map m1 m2 m3 m4 m5] at F3
    dsimp only [St]
    by_cases hlt : (lo' : Int) < (hi' : Int)
    · have hltn : lo' < hi' := Int.ofNat_lt.mp hlt
      have hmid : (lo' + hi') / 2 < ks.length := bs_mid hltn hhi
      obtain ⟨tm, hm⟩ := hks.at hmid
    
      obtain ⟨k', rfl⟩ := bs_k hltn hk
      have hg2 : (if (ks.getD ((lo' + hi') / 2) 0) < x then bisL (fun i => (ks.getD i 0)) x k' ((lo' + hi') / 2 + 1) hi' else bisL (fun i => (ks.getD i 0)) x k' lo' ((lo' + hi') / 2)) = bisL (fun i => (ks.getD i 0)) x (ks.length) 0 ks.length := by
        rw [← hg]; exact (if_pos hltn).symm
      k_steps
      · rename_i ax hx FX NX
        rw [if_pos ax] at hg2
        exact ⟨_, _, _, hi' - ((lo' + hi') / 2 + 1), rfl, bs_u1 hltn, FX, NX, k', (lo' + hi') / 2 + 1, hi', _, _, rfl, bs_u2 hltn hk, hhi, hmid, hg2, congrArg (fun z => some (Value.int z _)) (by rw [mid_fdiv]; rfl), rfl, rfl, rfl, rfl⟩
      · rename_i ax hx FX NX
        rw [if_neg ax] at hg2
        exact ⟨_, _, _, (lo' + hi') / 2 - lo', rfl, bs_d1 hltn, FX, NX, k', lo', (lo' + hi') / 2, _, _, rfl, bs_d2 hltn hk, bs_d3 hltn hhi, hlo, hg2, rfl, congrArg (fun z => some (Value.int z _)) (by rw [mid_fdiv]), rfl, rfl, rfl⟩
    · k_steps
      rename_i kF kN Tc kX
      have e : bisL (fun i => (ks.getD i 0)) x k lo' hi' = lo' := by
        cases k with
        | zero => rfl
        | succ k => exact if_neg fun c => hlt (Int.ofNat_lt.mpr c)
      have e2 := hg.symm.trans e
      rw [e2] at h
      exact h _ _ _ kF kN
  case zfin => run_tac Mine.sq
end Mine

theorem Mine.row_clines2 : True := by
  k_with "@clines2@call ref" => ((k_here; k_dflt (refine' wpAny_call (Mine.bl_c ?cB ?cF ?cX ?cN ?cT ?cf ?ck ?cd ?cu ?c1 ?c2 ?c3 ?c4 ?c5 ?c6 ?_); (case cB => k_asm); (case cF => k_asm); (case cX => k_asm); (case cN => k_asm); (case cT => k_asm); (case cf => exact rfl); (case ck => exact rfl); (case cd => ((try dsimp only [Around.deeper, Around.in1]); first | exact Nat.lt_of_lt_of_le (by assumption) (by decide) | exact Nat.lt_of_lt_of_le (Nat.succ_lt_succ (by assumption)) (by decide) | exact Nat.lt_of_lt_of_le (Nat.succ_lt_succ (Nat.succ_lt_succ (by assumption))) (by decide) | omega)); (case cu => ((try dsimp only [Around.deeper, Around.in1]); first | exact Nat.lt_of_lt_of_le (by assumption) (by decide) | exact Nat.lt_of_lt_of_le (Nat.succ_lt_succ (by assumption)) (by decide) | exact Nat.lt_of_lt_of_le (Nat.succ_lt_succ (Nat.succ_lt_succ (by assumption))) (by decide) | omega)); (case c1 => run_tac Mine.memT); (case c2 => assumption); (case c3 => assumption); (case c4 => assumption); (case c5 => assumption); (case c6 => assumption)); intro h' tk' t' F' N'))
  k_with "@clines2@call ref" => ((k_here; k_dflt (refine' wpAny_call (Mine.bl2_c ?cB ?cF ?cX ?cN ?cT ?cf ?ck ?cd ?cu ?c1 ?c2 ?c3 ?_); (case cB => k_asm); (case cF => k_asm); (case cX => k_asm); (case cN => k_asm); (case cT => k_asm); (case cf => exact rfl); (case ck => exact rfl); (case cd => ((try dsimp only [Around.deeper, Around.in1]); first | exact Nat.lt_of_lt_of_le (by assumption) (by decide) | exact Nat.lt_of_lt_of_le (Nat.succ_lt_succ (by assumption)) (by decide) | exact Nat.lt_of_lt_of_le (Nat.succ_lt_succ (Nat.succ_lt_succ (by assumption))) (by decide) | omega)); (case cu => ((try dsimp only [Around.deeper, Around.in1]); first | exact Nat.lt_of_lt_of_le (by assumption) (by decide) | exact Nat.lt_of_lt_of_le (Nat.succ_lt_succ (by assumption)) (by decide) | exact Nat.lt_of_lt_of_le (Nat.succ_lt_succ (Nat.succ_lt_succ (by assumption))) (by decide) | omega)); (case c1 => run_tac Mine.memT); (case c2 => assumption); (case c3 => assumption)); intro h' tk' t' F' N'))
  trivial
theorem Mine.row_lines3 : True := by
  k_with "@lines3@call builtin:list.insert" => ((k_here; k_dflt (refine' Mine.insert_K ?k1 ?k2 ?k3 ?k4 ?k5 ?_; (case k1 => k_asm); (case k2 => k_asm); (case k5 => k_upd); (case k3 => first | assumption | omega); (case k4 => first | assumption | omega)); intro h' F' N'))
  trivial
theorem Mine.use_M40 : True := by
  w_top off
  run_tac Mine.use ["linesP", "lines", "clines", "clines2", "lines3", "linesZZ"]
  trivial
namespace Mine
theorem ins_c {w : World} {A₀ : Around} {base h₀ : Heap} {outer : List Env} {env : Env} {L : Addr} {m : Str → Option Value} {s : Shared} {lo me} {mg mb} {R : Result → Shared → Prop} {d u : Nat} {gd : Option (List Code)}
 {a kf : Addr} {items : Array Value} {n : Nat} {rest : List (Addr × Obj)} {x : Nat} {xt : Tok} {ks : List Nat} {val : Nat → Int} {dom : Nat}
 (B : Below A₀ base outer h₀) (F : Fr h₀ L s.heap m) (X : (Mine.hd.heap_39 w.params).In h₀) (N : News h₀ L s.heap ((a, W.listOf items n) :: rest)) (T : Top topProg lo me mg mb h₀) (hf : env.frame = some L) (hke : env.scope.kind = .function) (hd : d < 600) (hu : u < 600)
 (ha : ∀ p ∈ rest, p.1 ≠ a) (hks : NatsIn items ks) (hdom : ∀ k ∈ ks, k < dom) (hfn : ∃ fo fd, (kf, fo) ∈ (a, W.listOf items n) :: rest ∧ fo.data = .func fd) (hkey : KeySpec w kf ((a, W.listOf items n) :: rest) val dom) (hz : ks.length ≤ 99) (hx : x < dom)
 (h : ∀ h' tk' n', Fr h₀ L h' m → News h₀ L h' ((a, W.listOf (items.toList.take (bisL (fun i => val (ks.getD i 0)) (val x) ks.length 0 ks.length) ++ .int x xt :: items.toList.drop (bisL (fun i => val (ks.getD i 0)) (val x) ks.length 0 ks.length)).toArray n') :: rest) → R (.ok (.ret .none)) (St s h' s.gens tk')) :
 codeAny (model Challenge.rw_if0017_01.row.prog w) (Around.mk none d (some (env :: outer)) gd u) (.call (.ref 56) ⟨[.ref a, .int x xt], [(Str.ofString "key", .ref kf)]⟩) R s := by
  refine @Mine.sqz _ ?zmain ?zfin
  case zmain =>
    have hz2 : ks.length ≤ 100 := by omega
    have hz3 : items.size ≤ 100 := hks.1 ▸ hz2
    have hle : bisL (fun i => val (ks.getD i 0)) (val x) ks.length 0 ks.length ≤ items.size := by rw [hks.1]; exact bisL_le _ _ _ _ _ (Nat.zero_le _)
    revert X; k_fill; intro X
    k_data
    k_steps
    exact h _ _ _ (by assumption) (by assumption)
  case zfin => run_tac Mine.sq
end Mine

theorem Mine.use_M41 : True := by
  w_top off
  run_tac Mine.use ["linesP", "lines", "clines", "clines2", "lines3", "linesZZ"]
  trivial
namespace Mine
theorem ins2_c {w : World} {A₀ : Around} {base h₀ : Heap} {outer : List Env} {env : Env} {L : Addr} {m : Str → Option Value} {s : Shared} {lo me} {mg mb} {R : Result → Shared → Prop} {d u : Nat} {gd : Option (List Code)}
 {a : Addr} {items : Array Value} {n : Nat} {rest : List (Addr × Obj)} {x : Int} {xt : Tok} {ks : List Int}
 (B : Below A₀ base outer h₀) (F : Fr h₀ L s.heap m) (X : (Mine.hd.heap_39 w.params).In h₀) (N : News h₀ L s.heap ((a, W.listOf items n) :: rest)) (T : Top topProg lo me mg mb h₀) (hf : env.frame = some L) (hke : env.scope.kind = .function) (hd : d < 600) (hu : u < 600)
 (ha : ∀ p ∈ rest, p.1 ≠ a) (hks : IntsIn items ks) (hz : ks.length ≤ 99)
 (h : ∀ h' tk' n', Fr h₀ L h' m → News h₀ L h' ((a, W.listOf (items.toList.take (bisL (fun i => ks.getD i 0) x ks.length 0 ks.length) ++ .int x xt :: items.toList.drop (bisL (fun i => ks.getD i 0) x ks.length 0 ks.length)).toArray n') :: rest) → R (.ok (.ret .none)) (St s h' s.gens tk')) :
 codeAny (model Challenge.rw_if0017_01.row.prog w) (Around.mk none d (some (env :: outer)) gd u) (.call (.ref 56) ⟨[.ref a, .int x xt], []⟩) R s := by
  refine @Mine.sqz _ ?zmain ?zfin
  case zmain =>
    have hz2 : ks.length ≤ 100 := by omega
    have hz3 : items.size ≤ 100 := hks.1 ▸ hz2
    have hle : bisL (fun i => ks.getD i 0) x ks.length 0 ks.length ≤ items.size := by rw [hks.1]; exact bisL_le _ _ _ _ _ (Nat.zero_le _)
    revert X; k_fill; intro X
    k_data
    k_steps
    exact h _ _ _ (by assumption) (by assumption)
  case zfin => run_tac Mine.sq
end Mine

theorem Mine.use_M10 : True := by
  w_top off
  run_tac Mine.use ["linesP", "lines", "linesZZ"]
  trivial
namespace Mine
theorem push_c {w : World} {A₀ : Around} {base h₀ : Heap} {outer : List Env} {env : Env} {L : Addr} {m : Str → Option Value} {s : Shared} {lo me} {mg mb} {R : Result → Shared → Prop} {d u : Nat} {gd : Option (List Code)}
 {a dx : Addr} {items : Array Value} {n : Nat} {ti : Tok} {iv : Value} {rest : List (Addr × Obj)} {b g : Str} {tb tg : Tok}
 (B : Below A₀ base outer h₀) (F : Fr h₀ L s.heap m) (X : (Mine.hd.heap_39 w.params).In h₀) (N : News h₀ L s.heap ((a, accO dx items n) :: rest)) (T : Top topProg lo me mg mb h₀) (hf : env.frame = some L) (hke : env.scope.kind = .function) (hd : d < 900) (hu : u < 900)
 (hdx : (dx, iniD w ti iv) ∈ rest) (ha : ∀ p ∈ rest, p.1 ≠ a) (hz : items.size ≤ 100)
 (h : ∀ t h' tk', Fr h₀ L h' m → News h₀ L h' ((t, tupO [.str b tb, .str g tg]) :: (a, accO dx (items.push (.ref t)) (n + 1)) :: rest) → (∀ p ∈ (a, accO dx items n) :: rest, p.1 < t) → R (.ok (.ret .none)) (St s h' s.gens tk')) :
 codeAny (model Challenge.rw_if0017_01.row.prog w) (Around.mk none d (some (env :: outer)) gd u) (.call (.ref 89) ⟨[.ref a, .str b tb, .str g tg], []⟩) R s := by
  refine @Mine.sqz _ ?zmain ?zfin
  case zmain =>
    have hz' : items.size ≤ sizeLine := Nat.le_trans hz (by decide)
    revert X; k_fill; intro X
    k_data
    k_steps
    exact h _ _ _ (by assumption) (by assumption) (allLt_mem (by assumption))
  case zfin => run_tac Mine.sq
end Mine

theorem Mine.use_M33 : True := by
  w_top off
  run_tac Mine.use ["linesP", "lines", "clines", "linesZZ"]
  trivial
namespace Mine
theorem pop0_c {w : World} {A₀ : Around} {base h₀ : Heap} {outer : List Env} {env : Env} {L : Addr} {m : Str → Option Value} {s : Shared} {lo me} {mg mb} {R : Result → Shared → Prop} {d u : Nat} {gd : Option (List Code)}
 {a dx : Addr} {items : Array Value} {n : Nat} {ti : Tok} {iv : Value} {rest : List (Addr × Obj)} 
 (B : Below A₀ base outer h₀) (F : Fr h₀ L s.heap m) (X : (Mine.hd.heap_39 w.params).In h₀) (N : News h₀ L s.heap ((a, accO dx #[] n) :: rest)) (T : Top topProg lo me mg mb h₀) (hf : env.frame = some L) (hke : env.scope.kind = .function) (hd : d < 800) (hu : u < 800)
 (hdx : (dx, iniD w ti iv) ∈ rest) (ha : ∀ p ∈ rest, p.1 ≠ a)
 (h : ∀ t h' tk' t1 t2, Fr h₀ L h' m → News h₀ L h' ((t, tupO [.str (Str.ofString "") t1, .str (Str.ofString "") t2]) :: (a, accO dx #[] n) :: rest) → (∀ p ∈ (a, accO dx #[] n) :: rest, p.1 < t) → R (.ok (.ret (.ref t))) (St s h' s.gens tk')) :
 codeAny (model Challenge.rw_if0017_01.row.prog w) (Around.mk none d (some (env :: outer)) gd u) (.call (.ref 105) ⟨[.ref a], []⟩) R s := by
  refine @Mine.sqz _ ?zmain ?zfin
  case zmain =>
    have hsz : ((#[] : Array Value).size : Int) = 0 := rfl
    revert X; k_fill; intro X
    k_data
    k_steps
    exact h _ _ _ _ _ (by assumption) (by assumption) (allLt_mem (by assumption))
  case zfin => run_tac Mine.sq
end Mine

theorem Mine.use_M34 : True := by
  w_top off
  run_tac Mine.use ["linesP", "lines", "clines", "linesZZ"]
  trivial
namespace Mine
theorem popfrom_c {w : World} {A₀ : Around} {base h₀ : Heap} {outer : List Env} {env : Env} {L : Addr} {m : Str → Option Value} {s : Shared} {lo me} {mg mb} {R : Result → Shared → Prop} {d u : Nat} {gd : Option (List Code)}
 {a dx : Addr} {items : Array Value} {n : Nat} {ti : Tok} {iv : Value} {rest : List (Addr × Obj)} {i : Nat} {it : Tok}
 (B : Below A₀ base outer h₀) (F : Fr h₀ L s.heap m) (X : (Mine.hd.heap_39 w.params).In h₀) (N : News h₀ L s.heap ((a, accO dx items n) :: rest)) (T : Top topProg lo me mg mb h₀) (hf : env.frame = some L) (hke : env.scope.kind = .function) (hd : d < 800) (hu : u < 800)
 (hdx : (dx, iniD w ti iv) ∈ rest) (ha : ∀ p ∈ rest, p.1 ≠ a) (hz : items.size ≤ 100) (hi : i ≤ items.size)
 (h : ∀ l h' tk' n1 n2, Fr h₀ L h' m → News h₀ L h' ((l, listOf (items.toList.drop i).toArray n1) :: (a, accO dx (items.toList.take i).toArray n2) :: rest) → (∀ p ∈ (a, accO dx items n) :: rest, p.1 < l) → R (.ok (.ret (.ref l))) (St s h' s.gens tk')) :
 codeAny (model Challenge.rw_if0017_01.row.prog w) (Around.mk none d (some (env :: outer)) gd u) (.call (.ref 97) ⟨[.ref a, .int i it], []⟩) R s := by
  refine @Mine.sqz _ ?zmain ?zfin
  case zmain =>
    have he : items.extract 0 (sliceBounds (some (i : Int)) none none items.size).1.toNat ++ #[] ++ items.extract (max (sliceBounds (some (i : Int)) none none items.size).1 (sliceBounds (some (i : Int)) none none items.size).2.1).toNat items.size = (items.toList.take i).toArray := by
      rw [show (items.toList.take i).toArray = items.extract 0 i from by apply Array.ext'; simp]
      have e1 : (max 0 (min (if (i : Int) < 0 then (i : Int) + items.size else i) items.size)).toNat = i := by
        rw [if_neg (by omega)]; omega
      have e2 : (max 0 (max (min (if (i : Int) < 0 then (i : Int) + items.size else i) items.size) items.size)).toNat = items.size := by
        rw [if_neg (by omega)]; omega
      simp [sliceBounds, e1]
      try rw [e2]
      try simp
    revert X; k_fill; intro X
    k_data
    k_steps
    have hp := slicePick_from items i hi
    rename_i kF kN Tc kX
    rw [hp] at kN
    exact h _ _ _ _ _ kF (News.tail' kN) (allLt_mem (by assumption))
  case zfin => run_tac Mine.sq
end Mine

theorem Mine.use_M32 : True := by
  w_top off
  run_tac Mine.use ["linesP", "lines", "clines", "linesZZ"]
  trivial
namespace Mine
theorem pop_c {w : World} {A₀ : Around} {base h₀ : Heap} {outer : List Env} {env : Env} {L : Addr} {m : Str → Option Value} {s : Shared} {lo me} {mg mb} {R : Result → Shared → Prop} {d u : Nat} {gd : Option (List Code)}
 {a dx : Addr} {items : Array Value} {v : Value} {n : Nat} {ti : Tok} {iv : Value} {rest : List (Addr × Obj)}
 (B : Below A₀ base outer h₀) (F : Fr h₀ L s.heap m) (X : (Mine.hd.heap_39 w.params).In h₀) (N : News h₀ L s.heap ((a, accO dx (items.push v) n) :: rest)) (T : Top topProg lo me mg mb h₀) (hf : env.frame = some L) (hke : env.scope.kind = .function) (hd : d < 800) (hu : u < 800)
 (hdx : (dx, iniD w ti iv) ∈ rest) (ha : ∀ p ∈ rest, p.1 ≠ a) (hz : items.size ≤ 100)
 (h : ∀ h' tk' n', Fr h₀ L h' m → News h₀ L h' ((a, accO dx items n') :: rest) → R (.ok (.ret v)) (St s h' s.gens tk')) :
 codeAny (model Challenge.rw_if0017_01.row.prog w) (Around.mk none d (some (env :: outer)) gd u) (.call (.ref 105) ⟨[.ref a], []⟩) R s := by
  refine @Mine.sqz _ ?zmain ?zfin
  case zmain =>
    have hsz : ((items.push v).size : Int) ≠ 0 := by simp; omega
    revert X; k_fill; intro X
    k_data
    k_steps
    all_goals first | (exact absurd (by assumption) hsz) | exact h _ _ _ (by assumption) (News.tail' (News.tail' (by assumption)))
  case zfin => run_tac Mine.sq
end Mine

theorem Mine.use_M30 : True := by
  w_top off
  run_tac Mine.use ["linesP", "lines", "clines", "linesZZ"]
  trivial
namespace Mine
theorem len_c {w : World} {A₀ : Around} {base h₀ : Heap} {outer : List Env} {env : Env} {L : Addr} {m : Str → Option Value} {s : Shared} {E T : List (Addr × Obj)} {lo me} {mg mb} {R : Result → Shared → Prop} {d u : Nat} {gd : Option (List Code)}
 {a dx : Addr} {items : Array Value} {n : Nat} {ti zt : Tok} {z : Int} {ps : List (Str × Str)}
 (B : Below A₀ base outer h₀) (F : Fr h₀ L s.heap m) (X : (Mine.hd.heap_39 w.params).In h₀) (N : News h₀ L s.heap (E ++ T)) (T0 : Top topProg lo me mg mb h₀) (hf : env.frame = some L) (hke : env.scope.kind = .function) (hd : d < 900) (hu : u < 900)
 (hE : ∀ p ∈ E, isTabE p.2 = false) (hT : Tabs T)
 (ha : (a, accO dx items n) ∈ E) (hda : (dx, iniD w ti (.int z zt)) ∈ E) (hz : z = 0 ∨ z = 3) (hps : AccIs E items ps) (hsh : ∀ p ∈ ps, p.1.length ≤ 100 ∧ p.2.length ≤ 100) (hl : ps.length ≤ 100)
 (h : ∀ T' h' g' t tk, Tabs T' → TabsLe T T' → Fr h₀ L h' m → News h₀ L h' (E ++ T') → (AllBare s.gens → AllBare g') → R (.ok (.ret (.int (z + weight ps) t))) (St s h' g' tk)) :
 codeAny (model Challenge.rw_if0017_01.row.prog w) (Around.mk none d (some (env :: outer)) gd u) (.call (.ref 112) ⟨[.ref a], []⟩) R s := by
  refine @Mine.sqz _ ?zmain ?zfin
  case zmain =>
    revert X; k_fill; intro X
    k_data
    k_steps
    rename_i g1 L1 h1 FG F1 N1 B1 X1 T1
    obtain ⟨Ts, va, vb, p1, p2⟩ := hps.pick
    refine genexp_T (K := Mine.hd.heap_39 w.params) (C := 145) (P := 107) (c := 111) (Fv := fun j y => ∃ t, y = .int (((fstOf ps j).length + (sndOf ps j).length : Nat) : Int) t) F1 X1 N1 (X := E) ?q1 hE hT T1 ?q2 rfl rfl ?q3 rfl ?q4 rfl rfl ?q5 rfl rfl rfl ?q6 rfl ?q7 ?q8 (InstAt.of_newsA N1 (List.mem_append_left T ha) (List.mem_append_left T hda) rfl) ?q9 ?q10 rfl p1 ?q11 ?q12
    case q1 => exact Split.app
    case q2 => exact codeHd_of_K X1 (by kernel_rfl)
    case q3 => exact (by decide : (107, ("_Accumulator.__len__.<locals>.<genexpr>" : Str)) ∈ tabList)
    case q4 => k_room
    case q5 => decide
    case q6 => decide
    case q7 => exact fun x => rfl
    case q8 => exact fun q => ld F1 rfl q
    case q9 => k_is
    case q10 => k_is
    case q11 =>
      intro A' E' i u₁ m₂ C' code hA' hD hU hi F2 e1 e2
      obtain ⟨⟨t1, v1⟩, t2, v2⟩ := p2 i hi
      rw [v1] at e1
      rw [v2] at e2
      have b1 : (fstOf ps i).length ≤ 100 := by
        have hi' : i < ps.length := hps.1 ▸ hi
        have e : ps.getD i ("", "") = ps[i] := by rw [List.getD_eq_getElem?_getD, List.getElem?_eq_getElem hi']; rfl
        show (ps.getD i ("", "")).1.length ≤ 100
        rw [e]; exact (hsh _ (List.getElem_mem hi')).1
      have b2 : (sndOf ps i).length ≤ 100 := by
        have hi' : i < ps.length := hps.1 ▸ hi
        have e : ps.getD i ("", "") = ps[i] := by rw [List.getD_eq_getElem?_getD, List.getElem?_eq_getElem hi']; rfl
        show (ps.getD i ("", "")).2.length ≤ 100
        rw [e]; exact (hsh _ (List.getElem_mem hi')).2
      generalize fstOf ps i = w1 at *
      generalize sndOf ps i = w2 at *
      obtain ⟨hh2, gg2, dd2, tt2, os2⟩ := u₁
      k_steps
      all_goals exact ⟨_, _, rfl, fun _ _ e => e⟩
    case q12 =>
      intro g T' s5 hT' hle F5 N5 hg hos hdr hgen
      obtain ⟨h5, g5, d5, t5, os5⟩ := s5
      dsimp only at hos hdr F5 N5
      subst hos hdr
      have ha' := List.mem_append_left T' ha
      have hda' := List.mem_append_left T' hda
      k_steps
      have hn : items.size = ps.length := hps.1
      have hws := weight_short hsh
      have wt := preSum_weight ps items.size (Nat.le_of_eq hn)
      rw [hn, List.take_length, ← hn] at wt
      refine call_sum2 (hgen.toks (Nat.le_succ _)) F5 N5 hz (fun j => (((fstOf ps j).length + (sndOf ps j).length : Nat) : Int)) (fun j v hv => hv) (fun j hj => ?_) fun s6 t6 F6 N6 hg6 hos6 hdr6 => ?_
      · have hj' : j < ps.length := hn ▸ hj
        have e : ps.getD j ("", "") = ps[j] := by rw [List.getD_eq_getElem?_getD, List.getElem?_eq_getElem hj']; rfl
        have b := hsh _ (List.getElem_mem hj')
        have b2 := weight_short (ps := ps.take (j + 1)) fun q hq => hsh q (List.mem_of_mem_take hq)
        have b3 : (ps.take (j + 1)).length ≤ 100 := by rw [List.length_take]; omega
        rw [preSum_weight ps (j + 1) hj']
        show InLong (((ps.getD j ("", "")).1.length + (ps.getD j ("", "")).2.length : Nat) : Int) ∧ _
        rw [e]
        unfold InLong
        rcases hz with rfl | rfl <;> omega
      · rw [wt]
        obtain ⟨h6, g6, d6, t6', os6⟩ := s6
        dsimp only at hos6 hdr6 F6 N6
        subst hos6 hdr6
        k_steps
        exact h T' _ _ _ _ hT' hle (by assumption) (by assumption) (fun hb => hg6 (hg hb))
  case zfin => run_tac Mine.sq
end Mine

theorem Mine.use_M31 : True := by
  w_top off
  run_tac Mine.use ["linesP", "lines", "clines", "linesZZ"]
  trivial
namespace Mine
theorem str_c {w : World} {A₀ : Around} {base h₀ : Heap} {outer : List Env} {env : Env} {L : Addr} {m : Str → Option Value} {s : Shared} {E T : List (Addr × Obj)} {lo me} {mg mb} {R : Result → Shared → Prop} {d u : Nat} {gd : Option (List Code)}
 {a dx : Addr} {items : Array Value} {n : Nat} {ti : Tok} {iv : Value} {ps : List (Str × Str)}
 (B : Below A₀ base outer h₀) (F : Fr h₀ L s.heap m) (X : (Mine.hd.heap_39 w.params).In h₀) (N : News h₀ L s.heap (E ++ T)) (T0 : Top topProg lo me mg mb h₀) (hf : env.frame = some L) (hke : env.scope.kind = .function) (hd : d < 900) (hu : u < 900)
 (hE : ∀ p ∈ E, isTabE p.2 = false) (hT : Tabs T)
 (ha : (a, accO dx items n) ∈ E) (hda : (dx, iniD w ti iv) ∈ E) (hps : AccIs E items ps) (hsh : ∀ p ∈ ps, p.1.length ≤ 100 ∧ p.2.length ≤ 100) (hl : ps.length ≤ 100)
 (h : ∀ T' h' g' t tk, Tabs T' → TabsLe T T' → Fr h₀ L h' m → News h₀ L h' (E ++ T') → (AllBare s.gens → AllBare g') → R (.ok (.ret (.str (Txt.join (Str.ofString "") (ps.map fun p => p.1 ++ p.2)) t))) (St s h' g' tk)) :
 codeAny (model Challenge.rw_if0017_01.row.prog w) (Around.mk none d (some (env :: outer)) gd u) (.call (.ref 119) ⟨[.ref a], []⟩) R s := by
  refine @Mine.sqz _ ?zmain ?zfin
  case zmain =>
    revert X; k_fill; intro X
    k_data
    k_steps
    rename_i g1 L1 h1 FG F1 N1 B1 X1 T1
    obtain ⟨Ts, va, vb, p1, p2⟩ := hps.pick
    refine genexp_T (K := Mine.hd.heap_39 w.params) (C := 145) (P := 114) (c := 118) (Fv := fun j y => ∃ t, y = .str (fstOf ps j ++ sndOf ps j) t) F1 X1 N1 (X := E) ?q1 hE hT T1 ?q2 rfl rfl ?q3 rfl ?q4 rfl rfl ?q5 rfl rfl rfl ?q6 rfl ?q7 ?q8 (InstAt.of_newsA N1 (List.mem_append_left T ha) (List.mem_append_left T hda) rfl) ?q9 ?q10 rfl p1 ?q11 ?q12
    case q1 => exact Split.app
    case q2 => exact codeHd_of_K X1 (by kernel_rfl)
    case q3 => exact (by decide : (114, ("_Accumulator.__str__.<locals>.<genexpr>" : Str)) ∈ tabList)
    case q4 => k_room
    case q5 => decide
    case q6 => decide
    case q7 => exact fun x => rfl
    case q8 => exact fun q => ld F1 rfl q
    case q9 => k_is
    case q10 => k_is
    case q11 =>
      intro A' E' i u₁ m₂ C' code hA' hD hU hi F2 e1 e2
      obtain ⟨⟨t1, v1⟩, t2, v2⟩ := p2 i hi
      rw [v1] at e1
      rw [v2] at e2
      have b1 : (fstOf ps i).length ≤ 100 := by
        have hi' : i < ps.length := hps.1 ▸ hi
        have e : ps.getD i ("", "") = ps[i] := by rw [List.getD_eq_getElem?_getD, List.getElem?_eq_getElem hi']; rfl
        show (ps.getD i ("", "")).1.length ≤ 100
        rw [e]; exact (hsh _ (List.getElem_mem hi')).1
      have b2 : (sndOf ps i).length ≤ 100 := by
        have hi' : i < ps.length := hps.1 ▸ hi
        have e : ps.getD i ("", "") = ps[i] := by rw [List.getD_eq_getElem?_getD, List.getElem?_eq_getElem hi']; rfl
        show (ps.getD i ("", "")).2.length ≤ 100
        rw [e]; exact (hsh _ (List.getElem_mem hi')).2
      generalize fstOf ps i = w1 at *
      generalize sndOf ps i = w2 at *
      obtain ⟨hh2, gg2, dd2, tt2, os2⟩ := u₁
      clear N1 N
      k_steps
      refine wpAny_newObj_type ?_ (by size_fits)
      k_steps
      refine join_tupleW (items := #[.str w1 t1, .str w2 t2]) (ys := [w1, w2]) ⟨_, Heap.get?_push_size _ rfl, rfl, _, rfl⟩ strsAre2 (by decide) (by simp; omega) fun t' k => ?_
      exact ⟨⟨t', by rw [join2]⟩, _, _, rfl, fun _ _ e => Heap.get?_push_of_some _ e⟩
    case q12 =>
      intro g T' s5 hT' hle F5 N5 hg hos hdr hgen
      obtain ⟨h5, g5, d5, t5, os5⟩ := s5
      dsimp only at hos hdr F5 N5
      subst hos hdr
      k_steps
      have hn : items.size = ps.length := hps.1
      have hpr := range_pairs ps
      rw [← hn] at hpr
      refine join_gen hgen F5 N5 (fun j v hv => hv) ?_ (fun s6 t6 F6 N6 hg6 hos6 hdr6 => ?_) (Nat.le_trans (show items.size ≤ 100 by omega) (by decide))
      · rw [hpr]
        exact joinOk_of_weight (by have := pairs_sum hsh; simp only [List.length_map]; omega) (by decide)
      · rw [hpr]
        obtain ⟨h6, g6, d6, t6', os6⟩ := s6
        dsimp only at hos6 hdr6 F6 N6
        subst hos6 hdr6
        k_steps
        exact h T' _ _ _ _ hT' hle (by assumption) (by assumption) (fun hb => hg6 (hg hb))
  case zfin => run_tac Mine.sq
end Mine

theorem Mine.use_M28 : True := by
  w_top off
  run_tac Mine.use ["linesP", "linesZZ"]
  trivial
namespace Mine
theorem updF_head {a : Addr} {o : Obj} {news : List (Addr × Obj)} {g : Obj → List (Addr × Obj)} (U : UpdF a o news g) : ∃ rest, (∀ p, p ∈ news ↔ p ∈ (a, o) :: rest) ∧ (∀ o' p, p ∈ g o' ↔ p ∈ (a, o') :: rest) ∧ ∀ p ∈ rest, p.1 ≠ a := by
  refine @Mine.sqz _ ?zmain ?zfin
  case zmain =>
    obtain ⟨pre, post, rfl, hg, h1, h2⟩ := U.split
    refine ⟨pre ++ post, fun p => ?_, fun o' p => ?_, fun p hp => ?_⟩
    · simp only [List.mem_append, List.mem_cons]; constructor
      · rintro (h | h | h)
        · exact .inr (.inl h)
        · exact .inl h
        · exact .inr (.inr h)
      · rintro (h | h | h)
        · exact .inr (.inl h)
        · exact .inl h
        · exact .inr (.inr h)
    · rw [hg]; simp only [List.mem_append, List.mem_cons]; constructor
      · rintro (h | h | h)
        · exact .inr (.inl h)
        · exact .inl h
        · exact .inr (.inr h)
      · rintro (h | h | h)
        · exact .inr (.inl h)
        · exact .inl h
        · exact .inr (.inr h)
    · rcases List.mem_append.mp hp with h | h
      · exact h1 p h
      · exact h2 p h
  case zfin => run_tac Mine.sq
theorem subC {α : Type} {a : α} {r l : List α} (h : a ∈ l) (k : ∀ p ∈ r, p ∈ l) : ∀ p ∈ a :: r, p ∈ l := List.forall_mem_cons.mpr ⟨h, k⟩
theorem subD {α : Type} (n : Nat) {r l : List α} (h : l.drop n = r) : ∀ p ∈ r, p ∈ l := fun _ hp => List.mem_of_mem_drop (h ▸ hp)
theorem fcons {α : Type} {P : α → Prop} {a : α} {l : List α} (h : P a) (k : ∀ x ∈ l, P x) : ∀ x ∈ a :: l, P x := List.forall_mem_cons.mpr ⟨h, k⟩
theorem news_sub {h₀ h : Heap} {L : Addr} {a b : List (Addr × Obj)} (N : News h₀ L h a) (k : ∀ p ∈ b, p ∈ a) : News h₀ L h b := fun p hp => N p (k p hp)
theorem KeySpec.perm {w : World} {kf : Addr} {news news' : List (Addr × Obj)} {val : Nat → Int} {dom : Nat} (hs : KeySpec w kf news val dom) (k : ∀ p, p ∈ news ↔ p ∈ news') : KeySpec w kf news' val dom := by
  refine @Mine.sqz _ ?zmain ?zfin
  case zmain =>
    intro A₀ base h₀ outer env L m s lo me mg mb R d u gd kk tk B F X N T hf hke hd hu hk h
    exact hs B F X (news_sub N fun p hp => (k p).mp hp) T hf hke hd hu hk fun h' t tk' F' N' => h h' t tk' F' (news_sub N' fun p hp => (k p).mpr hp)
  case zfin => run_tac Mine.sq
section
variable {w : World} {A₀ : Around} {base h₀ : Heap} {outer : List Env} {env : Env} {L : Addr} {m : Str → Option Value} {s : Shared} {lo : List Str} {me : ExcName → Option Value} {mg mb : Str → Option Value} {R : Result → Shared → Prop} {d u : Nat} {gd : Option (List Code)} {news : List (Addr × Obj)} {g : Obj → List (Addr × Obj)}
theorem push_cU {a dx : Addr} {items : Array Value} {n : Nat} {ti : Tok} {iv : Value} {b gg : Str} {tb tg : Tok}
 (B : Below A₀ base outer h₀) (F : Fr h₀ L s.heap m) (X : (Mine.hd.heap_39 w.params).In h₀) (N : News h₀ L s.heap news) (T : Top topProg lo me mg mb h₀) (hf : env.frame = some L) (hke : env.scope.kind = .function) (hd : d < 900) (hu : u < 900)
 (U : UpdF a (accO dx items n) news g) (hdx : (dx, iniD w ti iv) ∈ news) (hz : items.size ≤ 100)
 (h : ∀ t h' tk', Fr h₀ L h' m → News h₀ L h' ((t, tupO [.str b tb, .str gg tg]) :: g (accO dx (items.push (.ref t)) (n + 1))) → (∀ p ∈ news, p.1 < t) → R (.ok (.ret .none)) (St s h' s.gens tk')) :
 codeAny (model Challenge.rw_if0017_01.row.prog w) (Around.mk none d (some (env :: outer)) gd u) (.call (.ref 89) ⟨[.ref a, .str b tb, .str gg tg], []⟩) R s := by
  refine @Mine.sqz _ ?zmain ?zfin
  case zmain =>
    obtain ⟨rest, e1, e2, e3⟩ := updF_head U
    have hdx' : (dx, iniD w ti iv) ∈ rest := by
      rcases List.mem_cons.mp ((e1 _).mp hdx) with e | e
      · cases congrArg (fun p : Addr × Obj => p.2.data) e
      · exact e
    refine push_c B F X (news_sub N fun p hp => (e1 p).mpr hp) T hf hke hd hu hdx' e3 hz fun t h' tk' F' N' l => h t h' tk' F' (news_sub N' fun p hp => ?_) fun p hp => l p ((e1 p).mp hp)
    rcases List.mem_cons.mp hp with rfl | hp
    · exact .head _
    · exact .tail _ ((e2 _ p).mp hp)
  case zfin => run_tac Mine.sq
theorem pop_cU {a dx : Addr} {items : Array Value} {v : Value} {n : Nat} {ti : Tok} {iv : Value}
 (B : Below A₀ base outer h₀) (F : Fr h₀ L s.heap m) (X : (Mine.hd.heap_39 w.params).In h₀) (N : News h₀ L s.heap news) (T : Top topProg lo me mg mb h₀) (hf : env.frame = some L) (hke : env.scope.kind = .function) (hd : d < 800) (hu : u < 800)
 (U : UpdF a (accO dx (items.push v) n) news g) (hdx : (dx, iniD w ti iv) ∈ news) (hz : items.size ≤ 100)
 (h : ∀ h' tk' n', Fr h₀ L h' m → News h₀ L h' (g (accO dx items n')) → R (.ok (.ret v)) (St s h' s.gens tk')) :
 codeAny (model Challenge.rw_if0017_01.row.prog w) (Around.mk none d (some (env :: outer)) gd u) (.call (.ref 105) ⟨[.ref a], []⟩) R s := by
  refine @Mine.sqz _ ?zmain ?zfin
  case zmain =>
    obtain ⟨rest, e1, e2, e3⟩ := updF_head U
    have hdx' : (dx, iniD w ti iv) ∈ rest := by
      rcases List.mem_cons.mp ((e1 _).mp hdx) with e | e
      · cases congrArg (fun p : Addr × Obj => p.2.data) e
      · exact e
    exact pop_c B F X (news_sub N fun p hp => (e1 p).mpr hp) T hf hke hd hu hdx' e3 hz fun h' tk' n' F' N' => h h' tk' n' F' (news_sub N' fun p hp => (e2 _ p).mp hp)
  case zfin => run_tac Mine.sq
theorem pop0_cU {a dx : Addr} {n : Nat} {ti : Tok} {iv : Value}
 (B : Below A₀ base outer h₀) (F : Fr h₀ L s.heap m) (X : (Mine.hd.heap_39 w.params).In h₀) (N : News h₀ L s.heap news) (T : Top topProg lo me mg mb h₀) (hf : env.frame = some L) (hke : env.scope.kind = .function) (hd : d < 800) (hu : u < 800)
 (U : UpdF a (accO dx #[] n) news g) (hdx : (dx, iniD w ti iv) ∈ news)
 (h : ∀ t h' tk' t1 t2, Fr h₀ L h' m → News h₀ L h' ((t, tupO [.str (Str.ofString "") t1, .str (Str.ofString "") t2]) :: news) → (∀ p ∈ news, p.1 < t) → R (.ok (.ret (.ref t))) (St s h' s.gens tk')) :
 codeAny (model Challenge.rw_if0017_01.row.prog w) (Around.mk none d (some (env :: outer)) gd u) (.call (.ref 105) ⟨[.ref a], []⟩) R s := by
  refine @Mine.sqz _ ?zmain ?zfin
  case zmain =>
    obtain ⟨rest, e1, e2, e3⟩ := updF_head U
    have hdx' : (dx, iniD w ti iv) ∈ rest := by
      rcases List.mem_cons.mp ((e1 _).mp hdx) with e | e
      · cases congrArg (fun p : Addr × Obj => p.2.data) e
      · exact e
    refine pop0_c (items := #[]) B F X (news_sub N fun p hp => (e1 p).mpr hp) T hf hke hd hu hdx' e3 fun t h' tk' t1 t2 F' N' l => h t h' tk' t1 t2 F' (news_sub N' fun p hp => ?_) fun p hp => l p ((e1 p).mp hp)
    rcases List.mem_cons.mp hp with rfl | hp
    · exact .head _
    · exact .tail _ ((e1 p).mp hp)
  case zfin => run_tac Mine.sq
theorem popfrom_cU {a dx : Addr} {items : Array Value} {n : Nat} {ti : Tok} {iv : Value} {i : Nat} {it : Tok}
 (B : Below A₀ base outer h₀) (F : Fr h₀ L s.heap m) (X : (Mine.hd.heap_39 w.params).In h₀) (N : News h₀ L s.heap news) (T : Top topProg lo me mg mb h₀) (hf : env.frame = some L) (hke : env.scope.kind = .function) (hd : d < 800) (hu : u < 800)
 (U : UpdF a (accO dx items n) news g) (hdx : (dx, iniD w ti iv) ∈ news) (hz : items.size ≤ 100) (hi : i ≤ items.size)
 (h : ∀ l h' tk' n1 n2, Fr h₀ L h' m → News h₀ L h' ((l, W.listOf (items.toList.drop i).toArray n1) :: g (accO dx (items.toList.take i).toArray n2)) → (∀ p ∈ news, p.1 < l) → R (.ok (.ret (.ref l))) (St s h' s.gens tk')) :
 codeAny (model Challenge.rw_if0017_01.row.prog w) (Around.mk none d (some (env :: outer)) gd u) (.call (.ref 97) ⟨[.ref a, .int i it], []⟩) R s := by
  refine @Mine.sqz _ ?zmain ?zfin
  case zmain =>
    obtain ⟨rest, e1, e2, e3⟩ := updF_head U
    have hdx' : (dx, iniD w ti iv) ∈ rest := by
      rcases List.mem_cons.mp ((e1 _).mp hdx) with e | e
      · cases congrArg (fun p : Addr × Obj => p.2.data) e
      · exact e
    refine popfrom_c B F X (news_sub N fun p hp => (e1 p).mpr hp) T hf hke hd hu hdx' e3 hz hi fun l h' tk' n1 n2 F' N' ll => h l h' tk' n1 n2 F' (news_sub N' fun p hp => ?_) fun p hp => ll p ((e1 p).mp hp)
    rcases List.mem_cons.mp hp with rfl | hp
    · exact .head _
    · exact .tail _ ((e2 _ p).mp hp)
  case zfin => run_tac Mine.sq
theorem ins_cU {a kf : Addr} {items : Array Value} {n : Nat} {xi : Int} {x : Nat} {xt : Tok} {ks : List Nat} {val : Nat → Int} {dom : Nat}
 (B : Below A₀ base outer h₀) (F : Fr h₀ L s.heap m) (X : (Mine.hd.heap_39 w.params).In h₀) (N : News h₀ L s.heap news) (T : Top topProg lo me mg mb h₀) (hf : env.frame = some L) (hke : env.scope.kind = .function) (hd : d < 600) (hu : u < 600)
 (U : UpdF a (W.listOf items n) news g) (hks : NatsIn items ks) (hdom : ∀ k ∈ ks, k < dom) (hfn : ∃ fo fd, (kf, fo) ∈ news ∧ fo.data = .func fd) (hkey : KeySpec w kf news val dom) (hz : ks.length ≤ 99) (hxi : xi = ((x : Nat) : Int)) (hx : x < dom)
 (h : ∀ h' tk' n', Fr h₀ L h' m → News h₀ L h' (g (W.listOf (items.toList.take (bisL (fun i => val (ks.getD i 0)) (val x) ks.length 0 ks.length) ++ .int x xt :: items.toList.drop (bisL (fun i => val (ks.getD i 0)) (val x) ks.length 0 ks.length)).toArray n')) → R (.ok (.ret .none)) (St s h' s.gens tk')) :
 codeAny (model Challenge.rw_if0017_01.row.prog w) (Around.mk none d (some (env :: outer)) gd u) (.call (.ref 56) ⟨[.ref a, .int xi xt], [(Str.ofString "key", .ref kf)]⟩) R s := by
  refine @Mine.sqz _ ?zmain ?zfin
  case zmain =>
    subst hxi
    obtain ⟨rest, e1, e2, e3⟩ := updF_head U
    exact ins_c B F X (news_sub N fun p hp => (e1 p).mpr hp) T hf hke hd hu e3 hks hdom (let ⟨fo, fd, q1, q2⟩ := hfn; ⟨fo, fd, (e1 _).mp q1, q2⟩) (hkey.perm e1) hz hx fun h' tk' n' F' N' => h h' tk' n' F' (news_sub N' fun p hp => (e2 _ p).mp hp)
  case zfin => run_tac Mine.sq
theorem ins2_cU {a : Addr} {items : Array Value} {n : Nat} {x : Int} {xt : Tok} {ks : List Int}
 (B : Below A₀ base outer h₀) (F : Fr h₀ L s.heap m) (X : (Mine.hd.heap_39 w.params).In h₀) (N : News h₀ L s.heap news) (T : Top topProg lo me mg mb h₀) (hf : env.frame = some L) (hke : env.scope.kind = .function) (hd : d < 600) (hu : u < 600)
 (U : UpdF a (W.listOf items n) news g) (hks : IntsIn items ks) (hz : ks.length ≤ 99)
 (h : ∀ h' tk' n', Fr h₀ L h' m → News h₀ L h' (g (W.listOf (items.toList.take (bisL (fun i => ks.getD i 0) x ks.length 0 ks.length) ++ .int x xt :: items.toList.drop (bisL (fun i => ks.getD i 0) x ks.length 0 ks.length)).toArray n')) → R (.ok (.ret .none)) (St s h' s.gens tk')) :
 codeAny (model Challenge.rw_if0017_01.row.prog w) (Around.mk none d (some (env :: outer)) gd u) (.call (.ref 56) ⟨[.ref a, .int x xt], []⟩) R s := by
  refine @Mine.sqz _ ?zmain ?zfin
  case zmain =>
    obtain ⟨rest, e1, e2, e3⟩ := updF_head U
    exact ins2_c B F X (news_sub N fun p hp => (e1 p).mpr hp) T hf hke hd hu e3 hks hz fun h' tk' n' F' N' => h h' tk' n' F' (news_sub N' fun p hp => (e2 _ p).mp hp)
  case zfin => run_tac Mine.sq
theorem len_cS {E T : List (Addr × Obj)} {a dx : Addr} {items : Array Value} {n : Nat} {ti zt : Tok} {z : Int} {ps : List (Str × Str)}
 (B : Below A₀ base outer h₀) (F : Fr h₀ L s.heap m) (X : (Mine.hd.heap_39 w.params).In h₀) (N : News h₀ L s.heap news) (T0 : Top topProg lo me mg mb h₀) (hf : env.frame = some L) (hke : env.scope.kind = .function) (hd : d < 900) (hu : u < 900)
 (hs : Split T news E) (hE : ∀ p ∈ E, isTabE p.2 = false) (hT : Tabs T)
 (ha : (a, accO dx items n) ∈ E) (hda : (dx, iniD w ti (.int z zt)) ∈ E) (hz : z = 0 ∨ z = 3) (hps : AccIs E items ps) (hsh : ∀ p ∈ ps, p.1.length ≤ 100 ∧ p.2.length ≤ 100) (hl : ps.length ≤ 100)
 (h : ∀ T' h' g' t tk, Tabs T' → TabsLe T T' → Fr h₀ L h' m → News h₀ L h' (E ++ T') → (AllBare s.gens → AllBare g') → R (.ok (.ret (.int (z + weight ps) t))) (St s h' g' tk)) :
 codeAny (model Challenge.rw_if0017_01.row.prog w) (Around.mk none d (some (env :: outer)) gd u) (.call (.ref 112) ⟨[.ref a], []⟩) R s := by
  obtain rfl := hs.eq
  exact len_c B F X N T0 hf hke hd hu hE hT ha hda hz hps hsh hl h
theorem str_cS {E T : List (Addr × Obj)} {a dx : Addr} {items : Array Value} {n : Nat} {ti : Tok} {iv : Value} {ps : List (Str × Str)}
 (B : Below A₀ base outer h₀) (F : Fr h₀ L s.heap m) (X : (Mine.hd.heap_39 w.params).In h₀) (N : News h₀ L s.heap news) (T0 : Top topProg lo me mg mb h₀) (hf : env.frame = some L) (hke : env.scope.kind = .function) (hd : d < 900) (hu : u < 900)
 (hs : Split T news E) (hE : ∀ p ∈ E, isTabE p.2 = false) (hT : Tabs T)
 (ha : (a, accO dx items n) ∈ E) (hda : (dx, iniD w ti iv) ∈ E) (hps : AccIs E items ps) (hsh : ∀ p ∈ ps, p.1.length ≤ 100 ∧ p.2.length ≤ 100) (hl : ps.length ≤ 100)
 (h : ∀ T' h' g' t tk, Tabs T' → TabsLe T T' → Fr h₀ L h' m → News h₀ L h' (E ++ T') → (AllBare s.gens → AllBare g') → R (.ok (.ret (.str (Txt.join (Str.ofString "") (ps.map fun p => p.1 ++ p.2)) t))) (St s h' g' tk)) :
 codeAny (model Challenge.rw_if0017_01.row.prog w) (Around.mk none d (some (env :: outer)) gd u) (.call (.ref 119) ⟨[.ref a], []⟩) R s := by
  obtain rfl := hs.eq
  exact str_c B F X N T0 hf hke hd hu hE hT ha hda hps hsh hl h
end
end Mine

theorem Mine.use_M29 : True := by
  w_top off
  run_tac Mine.use ["linesP", "linesZZ"]
  trivial
namespace Mine
noncomputable def accOf (ps : List (Bool × Str)) (i : Nat) : List (Str × Str) := (ps.take i).map fun p => (blk p.1, p.2)
noncomputable def hF (ps : List (Bool × Str)) (i : Nat) : Int := 2 * (3 + weight (accOf ps (i + 1))) - 3 * ((i + 1 : Nat) : Int) - 6
noncomputable def insN (val : Nat → Int) (ks : List Nat) (x : Nat) : List Nat := ks.take (bisL (fun i => val (ks.getD i 0)) (val x) ks.length 0 ks.length) ++ x :: ks.drop (bisL (fun i => val (ks.getD i 0)) (val x) ks.length 0 ks.length)
noncomputable def insI (ks : List Int) (x : Int) : List Int := ks.take (bisL (fun i => ks.getD i 0) x ks.length 0 ks.length) ++ x :: ks.drop (bisL (fun i => ks.getD i 0) x ks.length 0 ks.length)
noncomputable def rowF (ps : List (Bool × Str)) : Nat → List Nat
  | 0 => []
  | i + 1 => if (ps.getD i (false, "")).1 then insN (hF ps) (rowF ps i) i else rowF ps i
noncomputable def plainF (ps : List (Bool × Str)) : Nat → List Int
  | 0 => []
  | i + 1 => if (ps.getD i (false, "")).1 then insI (plainF ps i) (hF ps i) else plainF ps i
theorem ins_get {α : Type} (l : List α) (p : Nat) (x : α) (hp : p ≤ l.length) (i : Nat) : (l.take p ++ x :: l.drop p)[i]? = if i < p then l[i]? else if i = p then some x else l[i - 1]? := by
  refine @Mine.sqz _ ?zmain ?zfin
  case zmain =>
    have hl : (l.take p).length = p := by rw [List.length_take]; omega
    by_cases h : i < p
    · rw [if_pos h, List.getElem?_append_left (by omega), List.getElem?_take_of_lt h]
    · rw [if_neg h, List.getElem?_append_right (by omega), hl]
      by_cases e : i = p
      · rw [if_pos e, e, Nat.sub_self]; rfl
      · rw [if_neg e]
        obtain ⟨j, hj⟩ : ∃ j, i - p = j + 1 := ⟨i - p - 1, by omega⟩
        rw [hj, List.getElem?_cons_succ, List.getElem?_drop]
        congr 1; omega
  case zfin => run_tac Mine.sq
theorem natsIn_ins {items : Array Value} {ks : List Nat} {x p : Nat} {xt : Tok} (h : NatsIn items ks) (hp : p ≤ ks.length) : NatsIn (items.toList.take p ++ .int (x : Int) xt :: items.toList.drop p).toArray (ks.take p ++ x :: ks.drop p) := by
  refine @Mine.sqz _ ?zmain ?zfin
  case zmain =>
    have h1 := h.1
    have hp' : p ≤ items.toList.length := by rw [Array.length_toList, h1]; exact hp
    refine ⟨by simp only [List.size_toArray, List.length_append, List.length_take, List.length_cons, List.length_drop, Array.length_toList, h1], fun i k e => ?_⟩
    rw [ins_get _ _ _ hp] at e
    rw [List.getElem?_toArray, ins_get _ _ _ hp']
    split at e
    · next q => rw [if_pos q]; obtain ⟨t, e2⟩ := h.2 i k e; exact ⟨t, by rw [← e2, Array.getElem?_toList]⟩
    · next q =>
      rw [if_neg q]
      split at e
      · next q2 => rw [if_pos q2]; cases e; exact ⟨xt, rfl⟩
      · next q2 => rw [if_neg q2]; obtain ⟨t, e2⟩ := h.2 (i - 1) k e; exact ⟨t, by rw [← e2, Array.getElem?_toList]⟩
  case zfin => run_tac Mine.sq
theorem intsIn_ins {items : Array Value} {ks : List Int} {x : Int} {p : Nat} {xt : Tok} (h : IntsIn items ks) (hp : p ≤ ks.length) : IntsIn (items.toList.take p ++ .int x xt :: items.toList.drop p).toArray (ks.take p ++ x :: ks.drop p) := by
  refine @Mine.sqz _ ?zmain ?zfin
  case zmain =>
    have h1 := h.1
    have hp' : p ≤ items.toList.length := by rw [Array.length_toList, h1]; exact hp
    refine ⟨by simp only [List.size_toArray, List.length_append, List.length_take, List.length_cons, List.length_drop, Array.length_toList, h1], fun i k e => ?_⟩
    rw [ins_get _ _ _ hp] at e
    rw [List.getElem?_toArray, ins_get _ _ _ hp']
    split at e
    · next q => rw [if_pos q]; obtain ⟨t, e2⟩ := h.2 i k e; exact ⟨t, by rw [← e2, Array.getElem?_toList]⟩
    · next q =>
      rw [if_neg q]
      split at e
      · next q2 => rw [if_pos q2]; cases e; exact ⟨xt, rfl⟩
      · next q2 => rw [if_neg q2]; obtain ⟨t, e2⟩ := h.2 (i - 1) k e; exact ⟨t, by rw [← e2, Array.getElem?_toList]⟩
  case zfin => run_tac Mine.sq
theorem intsIn_push {items : Array Value} {ks : List Int} {x : Int} {xt : Tok} (h : IntsIn items ks) : IntsIn (items.push (.int x xt)) (ks ++ [x]) := by
  refine @Mine.sqz _ ?zmain ?zfin
  case zmain =>
    have h1 := h.1
    refine ⟨by simp [h1], fun i k e => ?_⟩
    rw [Array.getElem?_push]
    by_cases hi : i < ks.length
    · rw [List.getElem?_append_left hi] at e
      obtain ⟨t, e2⟩ := h.2 i k e
      exact ⟨t, by rw [if_neg (by omega), e2]⟩
    · have hi' : i = ks.length := by
        have := (List.getElem?_eq_some_iff.mp e).1
        simp at this; omega
      subst hi'
      simp at e
      exact ⟨xt, by rw [if_pos (by omega), e]⟩
  case zfin => run_tac Mine.sq
theorem insN_len (val : Nat → Int) (ks : List Nat) (x : Nat) : (insN val ks x).length = ks.length + 1 := by
  have := bisL_le (fun i => val (ks.getD i 0)) (val x) ks.length 0 ks.length (Nat.zero_le _)
  unfold insN
  simp only [List.length_append, List.length_take, List.length_cons, List.length_drop]; omega
theorem insI_len (ks : List Int) (x : Int) : (insI ks x).length = ks.length + 1 := by
  have := bisL_le (fun i => ks.getD i 0) x ks.length 0 ks.length (Nat.zero_le _)
  unfold insI
  simp only [List.length_append, List.length_take, List.length_cons, List.length_drop]; omega
theorem insN_mem {val : Nat → Int} {ks : List Nat} {x k : Nat} (h : k ∈ insN val ks x) : k = x ∨ k ∈ ks := by
  unfold insN at h
  rcases List.mem_append.mp h with h | h
  · exact .inr (List.mem_of_mem_take h)
  · rcases List.mem_cons.mp h with rfl | h
    · exact .inl rfl
    · exact .inr (List.mem_of_mem_drop h)
theorem rowF_len (ps : List (Bool × Str)) : ∀ i, (rowF ps i).length ≤ i
  | 0 => Nat.le_refl _
  | i + 1 => by
    have := rowF_len ps i
    unfold rowF; split
    · rw [insN_len]; omega
    · omega
theorem plainF_len (ps : List (Bool × Str)) : ∀ i, (plainF ps i).length ≤ i
  | 0 => Nat.le_refl _
  | i + 1 => by
    have := plainF_len ps i
    unfold plainF; split
    · rw [insI_len]; omega
    · omega
theorem rowF_lt (ps : List (Bool × Str)) : ∀ i, ∀ k ∈ rowF ps i, k < i
  | 0, _, h => (nomatch h)
  | i + 1, k, h => by
    unfold rowF at h
    split at h
    · rcases insN_mem h with rfl | h
      · exact Nat.lt_succ_self _
      · exact Nat.lt_succ_of_lt (rowF_lt ps i k h)
    · exact Nat.lt_succ_of_lt (rowF_lt ps i k h)
end Mine
namespace Mine
theorem tabs_apartS {h₀ h : Heap} {L : Addr} {T news X : List (Addr × Obj)} {a : Addr} {o : Obj} (N : News h₀ L h news) (hs : Split T news X) (hT : Tabs T) (ha : (a, o) ∈ news) (hn : isTabE o = false) : ∀ p ∈ T, p.1 ≠ a :=
  tabs_apart N (fun p hp => by rw [hs.eq]; exact List.mem_append_right _ hp) hT ha hn
theorem AccIs.pushX {E E' : List (Addr × Obj)} {items : Array Value} {ps : List (Str × Str)} {t : Addr} {b g : Str} {tb tg : Tok} (h : AccIs E items ps) (k : ∀ p ∈ E, p ∈ E') (hm : (t, tupO [.str b tb, .str g tg]) ∈ E') : AccIs E' (items.push (.ref t)) (ps ++ [(b, g)]) :=
  (h.mono k).push hm
/-- what the loop of the rows keeps -/
noncomputable def RowsI (ps : List (Bool × Str)) (E T : List (Addr × Obj)) (g₀ : Array GenState) (hd pl rw hl cl a dx : Addr) (oc : Obj) (i : Nat) (m : Str → Option Value) (news : List (Addr × Obj)) (g : Array GenState) : Prop :=
  ∃ Ei Ti n1 n2 n3 n4 n5 hn pls rws hls ri, news = (hd, W.listOf hn n1) :: (pl, W.listOf pls n2) :: (rw, W.listOf rws n3) :: (hl, W.listOf hls n4) :: (cl, oc) :: (a, accO dx ri n5) :: (Ei ++ Ti) ∧
    (∀ p ∈ E, p ∈ Ei) ∧ (∀ p ∈ Ei, isTabE p.2 = false) ∧ (∀ p ∈ Ei, p.1 ≠ hd) ∧ (∀ p ∈ Ei, p.1 ≠ pl) ∧ (∀ p ∈ Ei, p.1 ≠ rw) ∧ (∀ p ∈ Ei, p.1 ≠ hl) ∧ (∀ p ∈ Ei, p.1 ≠ a) ∧ Tabs Ti ∧ TabsLe T Ti ∧ AccIs Ei ri (accOf ps i) ∧
    IntsIn hls ((List.range i).map (hF ps)) ∧ NatsIn rws (rowF ps i) ∧ IntsIn pls (plainF ps i) ∧ (∀ v ∈ hn, v = .none) ∧ hn.size ≤ 3 * i ∧ (AllBare g₀ → AllBare g) ∧
    m (Str.ofString "heard") = some (.ref hd) ∧ m (Str.ofString "plain") = some (.ref pl) ∧ m (Str.ofString "row") = some (.ref rw) ∧ m (Str.ofString "ring") = some (.ref a)
theorem accOf_len {ps : List (Bool × Str)} {i : Nat} (h : i ≤ ps.length) : (accOf ps i).length = i := by
  unfold accOf; rw [List.length_map, List.length_take]; omega
theorem accOf_succ {ps : List (Bool × Str)} {i : Nat} {b : Bool} {g : Str} (e : ps[i]? = some (b, g)) : accOf ps (i + 1) = accOf ps i ++ [(blk b, g)] := by
  unfold accOf; rw [List.take_add_one, e, List.map_append]; rfl
theorem accOf_short {ps : List (Bool × Str)} (hsg : ∀ q ∈ ps, q.2 ∈ signs) (i : Nat) : ∀ p ∈ accOf ps i, p.1.length ≤ 100 ∧ p.2.length ≤ 100 := fun p hp => by
  unfold accOf at hp
  obtain ⟨q, hq, rfl⟩ := List.mem_map.mp hp
  have := signs_short _ (hsg q (List.mem_of_mem_take hq))
  have h2 : (blk q.1).length ≤ 1 := by cases q.1 <;> decide
  exact ⟨by show (blk q.1).length ≤ 100; omega, by show q.2.length ≤ 100; omega⟩
end Mine

theorem Mine.use_M29k : True := by
  w_top off
  run_tac Mine.use ["linesP", "linesZZ"]
  trivial
namespace Mine
theorem key_lam {w : World} {kf cell hl c' : Addr} {och oc : Obj} {qual : Str} {p1 p2 p3 pp : Pos} {pm ctv : Value} {items : Array Value} {n : Nat} {val : Nat → Int} {dom : Nat} {T news : List (Addr × Obj)}
  (hm : (kf, kla_obj "<lambda>" qual { posonlyargs := [], args := [{ arg := Str.ofString "place", annotation := none, pos := pp }], vararg := none, kwonlyargs := [], kw_defaults := [], kwarg := none, defaults := [] } (.Subscript (.Name (Str.ofString "heights") p1) (.Name (Str.ofString "place") p2) p3) { kind := .function, names := [(Str.ofString "place", .local), (Str.ofString "heights", .free)], isGenerator := false, isCoroutine := false } [(Str.ofString "heights", cell)] pm c' ctv) ∈ news)
  (hcell : (cell, oc) ∈ news) (hcd : oc.data = .cell (some (.ref hl))) (hli : (hl, W.listOf items n) ∈ news) (hci : CodeIn T qual (.ref c') c' och) (hT : ∀ p ∈ T, p ∈ news) (hdom : dom ≤ 100) (hv : ∀ k, k < dom → ∃ t, items[k]? = some (.int (val k) t)) : KeySpec w kf news val dom := by
  refine @Mine.sqz _ ?zmain ?zfin
  case zmain =>
    intro A₀ base h₀ outer env L m s lo me mg mb R d u gd k tk B F X N T0 hf hke hd hu hk h
    obtain ⟨vs, tq, hd1, hd2⟩ := hci.data
    obtain ⟨tv, hx⟩ := hv k hk
    have hx : items[((k : Nat) : Int).toNat]? = some (.int (val k) tv) := by rw [Int.toNat_natCast]; exact hx
    revert X; k_fill; intro X
    refine' kla_code (binds := [(Str.ofString "place", .int k tk)]) B F X N T0 rfl hf hke hm (codeRec_news N (hT _ hci.mem) hd1 hd2) ?room ?bind ?loc ?_ rfl rfl rfl ?cell
    case room => exact Nat.lt_of_lt_of_le hd (Nat.le_of_ble_eq_true rfl)
    case bind => exact rfl
    case loc => intro y hy; rcases List.mem_singleton.mp hy with rfl; rfl
    case cell => decide
    intro g' L' h' FG' F' N' B' X' T'
    refine Subscript_ (nameX_F N' rfl hcell hcd ?_ rfl rfl)
    refine nameX_L (v := .int k tk) F' rfl ?_
    refine PyProof.Rows.item_list (News.isList N' hli) (by omega) (by omega) hx ?_
    exact leaveK_ F' N' fun F2 N2 => h _ _ _ F2 N2
  case zfin => run_tac Mine.sq
theorem rows_hx {ps : List (Bool × Str)} {i : Nat} {q : Str × Str} {ri : Array Value} {r : Value} (e : accOf ps (i + 1) = accOf ps i ++ [q]) (hri : ri.size = i) : 2 * (3 + weight (accOf ps i ++ [q])) - 3 * (((ri.push r).size : Nat) : Int) - 6 = hF ps i := by
  unfold hF; rw [e, Array.size_push, hri]
theorem rows_hv {ps : List (Bool × Str)} {i : Nat} {hls : Array Value} {x : Int} {t' : Tok} (h : IntsIn hls ((List.range i).map (hF ps))) (e : x = hF ps i) : ∀ k, k < i + 1 → ∃ t, (hls.push (.int x t'))[k]? = some (.int (hF ps k) t) := by
  refine @Mine.sqz _ ?zmain ?zfin
  case zmain =>
    intro k hk
    have h1 : hls.size = i := by rw [h.1]; simp
    rw [Array.getElem?_push]
    by_cases hi : k < i
    · obtain ⟨t, e2⟩ := h.2 k (hF ps k) (by simp [hi])
      exact ⟨t, by rw [if_neg (by omega), e2]⟩
    · have : k = i := by omega
      subst this
      exact ⟨t', by rw [if_pos (by omega), e]⟩
  case zfin => run_tac Mine.sq
theorem len_pred {a : Array Value} {v : Value} {i : Nat} (h : a.size = i) : (((a.push v).size : Nat) : Int) - 1 = ((i : Nat) : Int) := by
  rw [Array.size_push, h]; omega
theorem ints_push {ps : List (Bool × Str)} {i : Nat} {hls : Array Value} {x : Int} {t' : Tok} (h : IntsIn hls ((List.range i).map (hF ps))) (e : x = hF ps i) : IntsIn (hls.push (.int x t')) ((List.range (i + 1)).map (hF ps)) := by
  rw [List.range_succ, List.map_append]
  exact e ▸ intsIn_push h
theorem item_last {prog : Program} {w : World} {A : Around} {E : Value → Shared → Prop} {s : Shared} {value slice : Expr} {l : Addr} {items : Array Value} {u : Tok} {x : Value} {Q : Value → Shared → Prop} (hl : s.heap.IsList l (items.push x)) (h : Q x s)
    (hs : subscripted slice false (.ref l) (.int (-1) u) = operate [.ref l, .int (-1) u] (getItem (.ref l) (.int (-1) u)) := by with_unfolding_all rfl) (hg : ∀ r, letTemporaryGo value (.ref l) r = pure () := by intro _; with_unfolding_all rfl) :
    wpAny (model prog w) A (subscriptTail value slice (.ref l) (.int (-1) u)) Q E s :=
  subscriptTail_builtin hl.typeIs slot_list_getitem.lookup (wpAny_getItem_list_neg hl (by decide) (by rw [Array.size_push]; omega) (by decide) (by rw [Array.size_push, show ((-1 : Int) + ((items.size + 1 : Nat) : Int)).toNat = items.size by omega]; simp) h) hs hg
end Mine

theorem Mine.use_M29b : True := by
  w_top off
  run_tac Mine.use ["linesP", "linesZZ"]
  trivial
namespace Mine
section
variable {ps : List (Bool × Str)} {i : Nat} {b : Bool} {sg : Str}
theorem getD_of {q : Bool × Str} (e : ps[i]? = some q) : ps.getD i (false, "") = q := by rw [List.getD_eq_getElem?_getD, e]; rfl
theorem rowF_up (e : ps[i]? = some (true, sg)) : rowF ps (i + 1) = insN (hF ps) (rowF ps i) i := by
  rw [rowF, getD_of e, if_pos rfl]
theorem rowF_dn (e : ps[i]? = some (false, sg)) : rowF ps (i + 1) = rowF ps i := by
  rw [rowF, getD_of e, if_neg (by simp)]
theorem plainF_up (e : ps[i]? = some (true, sg)) : plainF ps (i + 1) = insI (plainF ps i) (hF ps i) := by
  rw [plainF, getD_of e, if_pos rfl]
theorem plainF_dn (e : ps[i]? = some (false, sg)) : plainF ps (i + 1) = plainF ps i := by
  rw [plainF, getD_of e, if_neg (by simp)]
theorem nats_up {rws : Array Value} {xt : Tok} (h : NatsIn rws (rowF ps i)) (e : ps[i]? = some (true, sg)) :
    NatsIn (rws.toList.take (bisL (fun j => hF ps ((rowF ps i).getD j 0)) (hF ps i) (rowF ps i).length 0 (rowF ps i).length) ++ .int ((i : Nat) : Int) xt :: rws.toList.drop (bisL (fun j => hF ps ((rowF ps i).getD j 0)) (hF ps i) (rowF ps i).length 0 (rowF ps i).length)).toArray (rowF ps (i + 1)) := by
  rw [rowF_up e, insN]; exact natsIn_ins h (bisL_le _ _ _ _ _ (Nat.zero_le _))
theorem ints_up {pls : Array Value} {x : Int} {xt : Tok} (h : IntsIn pls (plainF ps i)) (ex : x = hF ps i) (e : ps[i]? = some (true, sg)) :
    IntsIn (pls.toList.take (bisL (fun j => (plainF ps i).getD j 0) x (plainF ps i).length 0 (plainF ps i).length) ++ .int x xt :: pls.toList.drop (bisL (fun j => (plainF ps i).getD j 0) x (plainF ps i).length 0 (plainF ps i).length)).toArray (plainF ps (i + 1)) := by
  subst ex; rw [plainF_up e, insI]; exact intsIn_ins h (bisL_le _ _ _ _ _ (Nat.zero_le _))
theorem none_push {hn : Array Value} (h : ∀ v ∈ hn, v = .none) : ∀ v ∈ hn.push Value.none, v = .none := fun v hv => by
  rcases Array.mem_push.mp hv with h1 | h1
  · exact h v h1
  · exact h1
theorem rows_end {E T Ei Tn : List (Addr × Obj)} {g₀ g : Array GenState} {hd pl rw hl cl a dx t it p : Addr} {oc : Obj} {m' : Str → Option Value} {hn pls rws hls ri : Array Value} {n1 n2 n3 n4 n5 tk : Nat} {g' h' : Heap} {L' : Addr} {s : Shared} {tb ts : Tok} {Q : Flow → Shared → Prop}
  (F : Fr g' L' h' m') (N : News g' L' h' ((t, tupO [.str (blk b) tb, .str sg ts]) :: (it, iterO p (i + 1)) :: (hd, W.listOf hn n1) :: (pl, W.listOf pls n2) :: (rw, W.listOf rws n3) :: (hl, W.listOf hls n4) :: (cl, oc) :: (a, accO dx (ri.push (.ref t)) n5) :: (Ei ++ Tn)))
  (hEs : ∀ p ∈ E, p ∈ Ei) (hEi : ∀ p ∈ Ei, isTabE p.2 = false) (e1 : ∀ p ∈ Ei, p.1 ≠ hd) (e2 : ∀ p ∈ Ei, p.1 ≠ pl) (e3 : ∀ p ∈ Ei, p.1 ≠ rw) (e4 : ∀ p ∈ Ei, p.1 ≠ hl) (e5 : ∀ p ∈ Ei, p.1 ≠ a) (e6 : ∀ p ∈ Ei, p.1 ≠ it)
  (i0 : @Ne Nat it cl) (i1 : @Ne Nat it hd) (i2 : @Ne Nat it pl) (i3 : @Ne Nat it rw) (i4 : @Ne Nat it hl) (i5 : @Ne Nat it a) (lt : @LT.lt Nat _ it t ∧ @LT.lt Nat _ hd t ∧ @LT.lt Nat _ pl t ∧ @LT.lt Nat _ rw t ∧ @LT.lt Nat _ hl t ∧ @LT.lt Nat _ a t)
  (hTn : Tabs Tn) (hle : TabsLe T Tn) (hacc : AccIs Ei ri (accOf ps i)) (e : ps[i]? = some (b, sg)) (hI1 : IntsIn hls ((List.range (i + 1)).map (hF ps))) (hI2 : NatsIn rws (rowF ps (i + 1))) (hI3 : IntsIn pls (plainF ps (i + 1))) (hnn : ∀ v ∈ hn, v = .none) (hnz : hn.size ≤ 3 * (i + 1)) (hg : AllBare g₀ → AllBare g)
  (hm1 : m' (Str.ofString "heard") = some (.ref hd)) (hm2 : m' (Str.ofString "plain") = some (.ref pl)) (hm3 : m' (Str.ofString "row") = some (.ref rw)) (hm4 : m' (Str.ofString "ring") = some (.ref a)) :
  TurnEnd g' L' s it (iterO p (i + 1)) (RowsI ps E T g₀ hd pl rw hl cl a dx oc (i + 1)) Q .next (St s h' g tk) := by
  refine @Mine.sqz _ ?zmain ?zfin
  case zmain =>
    obtain ⟨l0, l1, l2, l3, l4, l5⟩ := lt
    have hTi : ∀ p ∈ Tn, p.1 ≠ it := tabs_apart N (fun p hp => List.Mem.tail _ (.tail _ (.tail _ (.tail _ (.tail _ (.tail _ (.tail _ (.tail _ (List.mem_append_right _ hp))))))))) hTn (a := it) (.tail _ (.head _)) rfl
    have hE1 : ∀ z : Addr, @Ne Nat t z → (∀ p ∈ Ei, p.1 ≠ z) → ∀ p ∈ (t, tupO [.str (blk b) tb, .str sg ts]) :: Ei, p.1 ≠ z := fun z h1 h2 => List.forall_mem_cons.mpr ⟨h1, h2⟩
    refine TurnEnd.intro (news' := (hd, W.listOf hn n1) :: (pl, W.listOf pls n2) :: (rw, W.listOf rws n3) :: (hl, W.listOf hls n4) :: (cl, oc) :: (a, accO dx (ri.push (.ref t)) n5) :: (((t, tupO [.str (blk b) tb, .str sg ts]) :: Ei) ++ Tn)) F (news_sub N fun q hq => ?_) ?_
      ⟨(t, tupO [.str (blk b) tb, .str sg ts]) :: Ei, Tn, n1, n2, n3, n4, n5, hn, pls, rws, hls, ri.push (.ref t), rfl, fun p hp => .tail _ (hEs p hp), List.forall_mem_cons.mpr ⟨rfl, hEi⟩, hE1 _ (by omega) e1, hE1 _ (by omega) e2, hE1 _ (by omega) e3, hE1 _ (by omega) e4, hE1 _ (by omega) e5, hTn, hle, ?_, hI1, hI2, hI3, hnn, hnz, hg, hm1, hm2, hm3, hm4⟩
    · simp only [List.mem_cons, List.cons_append] at hq ⊢
      rcases hq with h | h | h | h | h | h | h | h | h
      · exact .inr (.inl h)
      · exact .inr (.inr (.inl h))
      · exact .inr (.inr (.inr (.inl h)))
      · exact .inr (.inr (.inr (.inr (.inl h))))
      · exact .inr (.inr (.inr (.inr (.inr (.inl h)))))
      · exact .inr (.inr (.inr (.inr (.inr (.inr (.inl h))))))
      · exact .inr (.inr (.inr (.inr (.inr (.inr (.inr (.inl h)))))))
      · exact .inl h
      · exact .inr (.inr (.inr (.inr (.inr (.inr (.inr (.inr h)))))))
    · refine List.forall_mem_cons.mpr ⟨Ne.symm i1, List.forall_mem_cons.mpr ⟨Ne.symm i2, List.forall_mem_cons.mpr ⟨Ne.symm i3, List.forall_mem_cons.mpr ⟨Ne.symm i4, List.forall_mem_cons.mpr ⟨Ne.symm i0, List.forall_mem_cons.mpr ⟨Ne.symm i5, List.forall_mem_append.mpr ⟨hE1 _ (by omega) e6, hTi⟩⟩⟩⟩⟩⟩⟩
    · rw [accOf_succ e]
      exact hacc.pushX (fun p hp => .tail _ hp) (.head _)
  case zfin => run_tac Mine.sq
end
end Mine

theorem Mine.use_M29c : True := by
  w_top off
  run_tac Mine.use ["linesP", "linesZZ"]
  trivial
namespace Mine
open PyProof.Rows.LCg PyProof.Rows.LCt in
theorem none_rest {prog : Program} {w : World} {A : Around} {s : Shared} {h₀ : Heap} {L : Addr} {m : Str → Option Value} {env : Env} {elt : Expr} {x : Str} {p1 p2 p3 : Pos} {kk : Nat} {scope : Scope} {cl : List (Str × Addr)} {S : List (Addr × Obj) → Prop} {Fin : List Value → List (Addr × Obj) → Prop} {its : Array Value} {news : List (Addr × Obj)}
  (hk : ∀ C, (compEnvC scope cl C env).scope.kind = .function) (hl : ∀ C, (compEnvC scope cl C env).kindOf x = some .local) (hx : (x == ("__debug__" : Str)) = false) (hn : ∀ v ∈ its, v = .none) (hS : S news) (hfin : Fin [] news) :
  ∀ k i, CompRestT prog w A h₀ L m env (.Compare (.Name x p1) [.IsNot] [.Constant .none kk p2] p3) elt x scope cl s S (fun i v => its[i]? = some v) Fin k i [] news
  | 0, _ => CompRestT.zero hfin
  | k + 1, i => CompRestT.succ fun v I oI C oC D m₂ h tk E' hP hC hx2 F N off ne => by
    have hv : v = .none := hn v (Array.mem_of_getElem? hP)
    subst hv
    refine wpAny_isTrue_Compare1 (LCgL.ld_own N (.tail _ (.head _)) hC hx2 ?_ (hk C) (hl C) hx)
    refine (show ∀ {M : Model} {A : Around} {E : Value → Shared → Prop} {env : Env} {s : Shared} {Q : Value → Shared → Prop}, Q .none s → wpAny M A (eval (.Constant .none kk p2) env) Q E s from fun h _ _ _ => h) ?_
    refine wpAny_isNot_self rfl ?_
    refine wpAny_truthy_bool ?_
    rw [if_neg Bool.false_ne_true]
    exact ⟨h, tk, news, rfl, F, N, off, hS, none_rest hk hl hx hn hS hfin k (i + 1)⟩
end Mine

theorem Mine.use_M63 : True := by
  w_top off
  run_tac Mine.use ["linesP", "linesZZ"]
  trivial
namespace Mine
/-- the levels of the declared namespaces: the first holds one pair, the others nothing -/
noncomputable def StackIs (news : List (Addr × Obj)) (dsi : Array Value) (l4 : Addr) : Prop :=
  dsi[0]? = some (.ref l4) ∧ ∀ i v, 0 < i → dsi[i]? = some v → ∃ e n, v = .ref e ∧ (e, W.listOf #[] n) ∈ news
theorem StackIs.mono {news news' : List (Addr × Obj)} {dsi : Array Value} {l4 : Addr} (h : StackIs news dsi l4) (k : ∀ p ∈ news, p ∈ news') : StackIs news' dsi l4 :=
  ⟨h.1, fun i v h0 e => let ⟨a, n, e1, e2⟩ := h.2 i v h0 e; ⟨a, n, e1, k _ e2⟩⟩
theorem StackIs.push {news : List (Addr × Obj)} {dsi : Array Value} {l4 e n} (h : StackIs news dsi l4) (hm : (e, W.listOf #[] n) ∈ news) : StackIs news (dsi.push (.ref e)) l4 := by
  refine @Mine.sqz _ ?zmain ?zfin
  case zmain =>
    have h0 : 0 < dsi.size := (Array.getElem?_eq_some_iff.mp h.1).1
    refine ⟨by rw [Array.getElem?_push, if_neg (by omega)]; exact h.1, fun i v hi e1 => ?_⟩
    rw [Array.getElem?_push] at e1
    split at e1
    · exact ⟨e, n, (Option.some.inj e1).symm, hm⟩
    · exact h.2 i v hi e1
  case zfin => run_tac Mine.sq
/-- what the plain walk of the levels answers -/
noncomputable def IterSpec (w : World) (itf l4 tp : Addr) (C : List (Addr × Obj)) : Prop :=
  ∀ {A₀ : Around} {base h₀ : Heap} {outer : List Env} {env : Env} {L : Addr} {m : Str → Option Value} {s : Shared} {lo : List Str} {me : ExcName → Option Value} {mg mb : Str → Option Value} {R : Result → Shared → Prop} {d u : Nat} {gd : Option (List Code)} {ds : Addr} {dsi : Array Value} {nd n4 : Nat} {news : List (Addr × Obj)},
    Below A₀ base outer h₀ → Fr h₀ L s.heap m → (Mine.hd.heap_39 w.params).In h₀ → News h₀ L s.heap news → Top topProg lo me mg mb h₀ → env.frame = some L → env.scope.kind = .function → d < 700 → u < 700 → (∀ p ∈ C, p ∈ news) →
    (ds, W.listOf dsi nd) ∈ news → (l4, W.listOf #[.ref tp] n4) ∈ news → StackIs news dsi l4 → dsi.size ≤ 50 →
    (∀ D h' tk' n, Fr h₀ L h' m → News h₀ L h' ((D, W.listOf #[.ref tp] n) :: news) → (∀ p ∈ news, p.1 < D) → R (.ok (.ret (.ref D))) (St s h' s.gens tk')) →
    codeAny (model Challenge.rw_if0017_01.row.prog w) (Around.mk none d (some (env :: outer)) gd u) (.call (.ref itf) ⟨[.ref ds], []⟩) R s
theorem IterSpec.use {w : World} {itf l4 tp : Addr} {C : List (Addr × Obj)} (hs : IterSpec w itf l4 tp C) {A₀ : Around} {base h₀ : Heap} {outer : List Env} {env : Env} {L : Addr} {m : Str → Option Value} {s : Shared} {lo : List Str} {me : ExcName → Option Value} {mg mb : Str → Option Value} {R : Result → Shared → Prop} {d u : Nat} {gd : Option (List Code)} {ds : Addr} {dsi : Array Value} {nd n4 : Nat} {news : List (Addr × Obj)}
    (B : Below A₀ base outer h₀) (F : Fr h₀ L s.heap m) (X : (Mine.hd.heap_39 w.params).In h₀) (N : News h₀ L s.heap news) (T : Top topProg lo me mg mb h₀) (hf : env.frame = some L) (hke : env.scope.kind = .function) (hd : d < 700) (hu : u < 700) (hC : ∀ p ∈ C, p ∈ news)
    (hds : (ds, W.listOf dsi nd) ∈ news) (h4 : (l4, W.listOf #[.ref tp] n4) ∈ news) (hst : StackIs news dsi l4) (hz : dsi.size ≤ 50)
    (h : ∀ D h' tk' n, Fr h₀ L h' m → News h₀ L h' ((D, W.listOf #[.ref tp] n) :: news) → (∀ p ∈ news, p.1 < D) → R (.ok (.ret (.ref D))) (St s h' s.gens tk')) :
    codeAny (model Challenge.rw_if0017_01.row.prog w) (Around.mk none d (some (env :: outer)) gd u) (.call (.ref itf) ⟨[.ref ds], []⟩) R s := hs B F X N T hf hke hd hu hC hds h4 hst hz h
/-- what the writer's write does -/
noncomputable def WriteSpec (w : World) (wf a dxS hdl : Addr) (C : List (Addr × Obj)) : Prop :=
  ∀ {A₀ : Around} {base h₀ : Heap} {outer : List Env} {env : Env} {L : Addr} {m : Str → Option Value} {s : Shared} {lo : List Str} {me : ExcName → Option Value} {mg mb : Str → Option Value} {R : Result → Shared → Prop} {d u : Nat} {gd : Option (List Code)} {items hitems : Array Value} {n nh : Nat} {ti : Tok} {iv : Value} {piece : Str} {pt : Tok} {news : List (Addr × Obj)} {g1 : Obj → List (Addr × Obj)} {g2 : Obj → Obj → List (Addr × Obj)},
    Below A₀ base outer h₀ → Fr h₀ L s.heap m → (Mine.hd.heap_39 w.params).In h₀ → News h₀ L s.heap news → Top topProg lo me mg mb h₀ → env.frame = some L → env.scope.kind = .function → d < 700 → u < 700 → (∀ p ∈ C, p ∈ news) →
    UpdF a (accO dxS items n) news g1 → (∀ o, UpdF hdl (W.listOf hitems nh) (g1 o) (g2 o)) → (dxS, iniD w ti iv) ∈ news → items.size ≤ 90 → hitems.size ≤ 90 → piece.length ≤ 99 →
    (∀ t h' tk' b g t1 t2, Fr h₀ L h' m → News h₀ L h' ((t, tupO [.str b t1, .str g t2]) :: g2 (accO dxS (items.push (.ref t)) (n + 1)) (W.listOf (hitems.push .none) (nh + 1))) → (∀ p ∈ news, p.1 < t) → b ++ g = piece → b.length ≤ 100 → g.length ≤ 100 → R (.ok (.ret .none)) (St s h' s.gens tk')) →
    codeAny (model Challenge.rw_if0017_01.row.prog w) (Around.mk none d (some (env :: outer)) gd u) (.call (.ref wf) ⟨[.str piece pt], []⟩) R s
theorem WriteSpec.use {w : World} {wf a dxS hdl : Addr} {C : List (Addr × Obj)} (hs : WriteSpec w wf a dxS hdl C) {A₀ : Around} {base h₀ : Heap} {outer : List Env} {env : Env} {L : Addr} {m : Str → Option Value} {s : Shared} {lo : List Str} {me : ExcName → Option Value} {mg mb : Str → Option Value} {R : Result → Shared → Prop} {d u : Nat} {gd : Option (List Code)} {items hitems : Array Value} {n nh : Nat} {ti : Tok} {iv : Value} {piece : Str} {pt : Tok} {news : List (Addr × Obj)} {g1 : Obj → List (Addr × Obj)} {g2 : Obj → Obj → List (Addr × Obj)}
    (B : Below A₀ base outer h₀) (F : Fr h₀ L s.heap m) (X : (Mine.hd.heap_39 w.params).In h₀) (N : News h₀ L s.heap news) (T : Top topProg lo me mg mb h₀) (hf : env.frame = some L) (hke : env.scope.kind = .function) (hd : d < 700) (hu : u < 700) (hC : ∀ p ∈ C, p ∈ news)
    (U1 : UpdF a (accO dxS items n) news g1) (U2 : ∀ o, UpdF hdl (W.listOf hitems nh) (g1 o) (g2 o)) (hdx : (dxS, iniD w ti iv) ∈ news) (hz1 : items.size ≤ 90) (hz2 : hitems.size ≤ 90) (hp : piece.length ≤ 99)
    (h : ∀ t h' tk' b g t1 t2, Fr h₀ L h' m → News h₀ L h' ((t, tupO [.str b t1, .str g t2]) :: g2 (accO dxS (items.push (.ref t)) (n + 1)) (W.listOf (hitems.push .none) (nh + 1))) → (∀ p ∈ news, p.1 < t) → b ++ g = piece → b.length ≤ 100 → g.length ≤ 100 → R (.ok (.ret .none)) (St s h' s.gens tk')) :
    codeAny (model Challenge.rw_if0017_01.row.prog w) (Around.mk none d (some (env :: outer)) gd u) (.call (.ref wf) ⟨[.str piece pt], []⟩) R s := hs B F X N T hf hke hd hu hC U1 U2 hdx hz1 hz2 hp h
end Mine

theorem Mine.use_M61 : True := by
  w_top off
  run_tac Mine.use ["linesP", "linesZZ"]
  trivial
namespace Mine
theorem method_shadow {prog : Program} {w : World} {A : Around} {E : Value → Shared → Prop} {s : Shared} {K : Frag} {h₀ : Heap} {L x C f dx : Addr} {m : Str → Option Value} {ox : Obj} {es : List DictEntry} {n : Nat} {v : Value} {name : Str} {pl : Sem Bool} {Q : Value × List Value → Shared → Prop} (F : Fr h₀ L s.heap m) (X₀ : K.In h₀) (I : W.InstAt s.heap x ox C (some (W.dictOf es n))) (hdx : ox.dict = some dx) (hg : plainGet K C name = true)
    (hf : findIn K (.ref C) name = some (some (.ref f))) (ht : isFn K (.ref f) = true) (hl : getL name es = some (some v)) (h : wpAny (model prog w) A (getAttr (.ref x) name) (fun v => Q (v, [])) E s) : wpAny (model prog w) A (getMethod (.ref x) name pl) Q E s := by
  refine @Mine.sqz _ ?zmain ?zfin
  case zmain =>
    have X := X₀.keeps F.keep
    have hcan := PySem.F.canon_object_ga
    have u : wpAny (model prog w) A (do return (← getAttr (.ref x) name, ([] : List Value))) Q E s := wpAny_bind (wpAny_mono h (fun _ _ z => wpAny_pure z) fun _ _ z => z)
    unfold getMethod specialOf
    refine wpAny_bind (wpAny_bind (I.type.here ((looks_findIn X (plainGet_of hg).1).here ?_)))
    dsimp only
    rw [hcan, if_neg (by decide)]
    refine wpAny_bind (wpAny_bind (I.type.here ((looks_findIn X (plainGet_of hg).2).here ?_)))
    refine wpAny_bind (wpAny_bind (I.type.here ((looks_findIn X hf).here (wpAny_bind ((looks_typeIn X (beq_iff_eq.mp ht)).here ?_)))))
    rw [if_neg (by decide +kernel)]
    refine wpAny_bind (wpAny_loadPart I.at_ ?_)
    have hd := I.dict
    rw [hdx] at hd ⊢
    refine wpAny_bind (wpAny_bind (wpAny_loadPart hd ?_))
    have hs : lookIn name (W.dictOf es n) = some (some v) := by rw [lookIn_dict, hl]
    rw [nsLook_of hs]
    refine wpAny_pure ?_
    exact u
  case zfin => run_tac Mine.sq
theorem get_shadow {prog : Program} {w : World} {A : Around} {E : Value → Shared → Prop} {s : Shared} {K : Frag} {h₀ : Heap} {L x C : Addr} {m : Str → Option Value} {ox : Obj} {es : List DictEntry} {n : Nat} {a g v : Value} {name : Str} {expr : Bool} {Q : Value → Shared → Prop} (F : Fr h₀ L s.heap m) (X₀ : K.In h₀) (I : W.InstAt s.heap x ox C (some (W.dictOf es n))) (hg : plainGet K C name = true) (hh : hasDictIn K C = true)
    (ha : findIn K (.ref C) name = some (some a)) (hge : specialIn K a "__get__" = some (some g)) (ht : takesIn K a = some false) (hl : getL name es = some (some v)) (hv : handedIn v = true) (h : Q v { s with toks := s.toks + 1 }) :
    wpAny (model prog w) A (getAttr (.ref x) name expr) Q E s := by
  refine @Mine.sqz _ ?zmain ?zfin
  case zmain =>
    refine get_value (X₀.keeps F.keep) I (plainGet_of hg).1 ?_ hv h
    obtain ⟨cd, hc, hd⟩ := any_some hh
    unfold findObj
    rw [hc, Option.bind_some, ha, Option.bind_some]
    have hs : lookIn name (W.dictOf es n) = some (some v) := by rw [lookIn_dict, hl]
    have ho : W.ownOf cd (some (W.dictOf es n)) name = some (some v) := by unfold W.ownOf; rw [if_pos hd]; exact hs
    simp [hge, ht, ho]
  case zfin => run_tac Mine.sq
end Mine

theorem Mine.use_M61b : True := by
  w_top off
  run_tac Mine.use ["linesP", "linesZZ"]
  trivial
namespace Mine
theorem sub2 {C news news' : List (Addr × Obj)} (h : ∀ p ∈ C, p ∈ news) (k : ∀ p ∈ news, p ∈ news') : ∀ p ∈ C, p ∈ news' := fun p hp => k p (h p hp)
noncomputable def AllNe (d : Nat) : List (Addr × Obj) → Prop
  | [] => True
  | p :: r => @Ne Nat p.1 d ∧ AllNe d r
theorem allNe_of {d : Addr} : ∀ {l : List (Addr × Obj)}, (∀ p ∈ l, p.1 ≠ d) → AllNe d l
  | [], _ => trivial
  | p :: _, h => ⟨h p (.head _), allNe_of fun q hq => h q (.tail _ hq)⟩
section
variable {prog : Program} {w : World} {A : Around} {E : Value → Shared → Prop} {s : Shared} {h₀ : Heap} {env : Env} {L : Addr} {target : Expr} {body : List Stmt} {Q : Flow → Shared → Prop}
/-- where the one turn of a loop over one item may end -/
noncomputable def OneEnd (h₀ : Heap) (L : Addr) (s : Shared) (it : Addr) (io : Obj) (l : Addr) (v : Value) (Q : Flow → Shared → Prop) (f : Flow) (s' : Shared) : Prop :=
  match f with
  | .brk => Q .next s'
  | .ret v => Q (.ret v) s'
  | _ => ∃ h' g' tk' m' news', s' = St s h' g' tk' ∧ Fr h₀ L h' m' ∧ News h₀ L h' ((it, io) :: news') ∧ (∀ p ∈ news', p.1 ≠ it) ∧ (∃ n, (l, W.listOf #[v] n) ∈ news') ∧ ∀ h tk, Fr h₀ L h m' → News h₀ L h news' → Q .next (St s h g' tk)
theorem OneEnd.intro {it l : Addr} {io : Obj} {v : Value} {h' g' tk' m' news'} {n : Nat} (F : Fr h₀ L h' m') (N : News h₀ L h' ((it, io) :: news')) (hl : (l, W.listOf #[v] n) ∈ news') (d : ∀ p ∈ news', p.1 ≠ it) (k : ∀ h tk, Fr h₀ L h m' → News h₀ L h news' → Q .next (St s h g' tk)) :
  OneEnd h₀ L s it io l v Q .next (St s h' g' tk') := ⟨h', g', tk', m', news', rfl, F, N, d, ⟨n, hl⟩, k⟩
theorem for_one {l : Addr} {v : Value} {n : Nat} {m₀ : Str → Option Value} {news₀ : List (Addr × Obj)} (hh : A.handled = none) (F : Fr h₀ L s.heap m₀) (N : News h₀ L s.heap news₀) (hm : (l, W.listOf #[v] n) ∈ news₀)
    (turn : ∀ h tk it E', Fr h₀ L h m₀ → News h₀ L h ((it, iterO l 1) :: news₀) → (∀ p ∈ news₀, p.1 ≠ it) →
      wpAny (model prog w) A (letOwnedTupleGo target (.ref it) v) (fun _ s₁ => wpAny (model prog w) A (assign target env v) (fun _ s₂ =>
        wpAny (model prog w) A (execs body env) (OneEnd h₀ L s it (iterO l 1) l v Q) E' s₂) E' s₁) E' (St s h s.gens tk)) :
    wpAny (model prog w) A (pyIter (.ref l)) (fun it s₂ => codeAny (model prog w) A (.forLoop target it body [] env) (fun r s' => match r with | .ok f => Q f s' | .error e => cameBackBy (model prog w) A env E e s') s₂) E s := by
  refine for_list (vs := #[v]) (fun i m news g => (∃ n, (l, W.listOf #[v] n) ∈ news) ∧ if i = 0 then m = m₀ ∧ news = news₀ ∧ g = s.gens else ∀ h tk, Fr h₀ L h m → News h₀ L h news → Q .next (St s h g tk)) hh F N ?_ ⟨⟨n, hm⟩, rfl, rfl, rfl⟩ ?_ ?_
  · rintro i m news g h ⟨⟨n', h1⟩, _⟩ _ N'
    exact N'.isList h1
  · rintro i v' m news g h tk it E' hv ⟨h1, h2⟩ F' N' d
    have hi : i = 0 := by
      have := (Array.getElem?_eq_some_iff.mp hv).1
      simp at this; exact this
    subst hi
    obtain ⟨rfl, rfl, rfl⟩ := h2
    have ev : v' = v := (Option.some.inj hv).symm
    subst ev
    refine wpAny_mono (turn h tk it E' F' N' d) (fun _ s₁ h₁ => wpAny_mono h₁ (fun _ s₂ h₂ => wpAny_mono h₂ (fun f s₃ h₃ => ?_) fun _ _ x => x) fun _ _ x => x) fun _ _ x => x
    have fin : (∃ h' g' tk' m' news', s₃ = St s h' g' tk' ∧ Fr h₀ L h' m' ∧ News h₀ L h' ((it, iterO l 1) :: news') ∧ (∀ p ∈ news', p.1 ≠ it) ∧ (∃ n, (l, W.listOf #[v'] n) ∈ news') ∧ ∀ h tk, Fr h₀ L h m' → News h₀ L h news' → Q .next (St s h g' tk)) → ∃ h' g' tk' m' news', s₃ = St s h' g' tk' ∧ Fr h₀ L h' m' ∧ News h₀ L h' ((it, iterO l (0 + 1)) :: news') ∧ (∀ p ∈ news', p.1 ≠ it) ∧ ((∃ n, (l, W.listOf #[v'] n) ∈ news') ∧ if 0 + 1 = 0 then m' = m ∧ news' = news ∧ g' = s.gens else ∀ h tk, Fr h₀ L h m' → News h₀ L h news' → Q .next (St s h g' tk)) := by
      rintro ⟨h', g', tk', m', news', a1, a2, a3, a4, a5, a6⟩
      exact ⟨h', g', tk', m', news', a1, a2, a3, a4, a5, by rw [if_neg (by omega)]; exact a6⟩
    cases f with
    | brk => exact h₃
    | ret v => exact h₃
    | next => exact fin h₃
    | cont => exact fin h₃
  · rintro m news g h tk ⟨_, h2⟩ F' N'
    rw [if_neg (show ¬ (#[v].size = 0) by simp)] at h2
    exact h2 h tk F' N'
end
theorem FnAt.sub {h₀ h : Heap} {L : Addr} {news news' : List (Addr × Obj)} {kf : Addr} (N : News h₀ L h news') (hfn : ∃ fo fd, (kf, fo) ∈ news ∧ fo.data = .func fd) (k : ∀ p ∈ news, p ∈ news') : FnAt kf h := let ⟨fo, fd, a, b⟩ := hfn; ⟨fo, fd, (N _ (k _ a)).1, b⟩
theorem ne_sub {l l' : List (Addr × Obj)} {z : Addr} (h : ∀ p ∈ l, p.1 ≠ z) (k : ∀ p ∈ l', p ∈ l) : ∀ p ∈ l', p.1 ≠ z := fun p hp => h p (k p hp)
theorem fn_sub {news news' : List (Addr × Obj)} {kf : Addr} (hfn : ∃ fo fd, (kf, fo) ∈ news ∧ fo.data = .func fd) (k : ∀ p ∈ news, p ∈ news') : ∃ fo fd, (kf, fo) ∈ news' ∧ fo.data = .func fd := let ⟨fo, fd, a, b⟩ := hfn; ⟨fo, fd, k _ a, b⟩
theorem pl0 : (Str.empty).length = 0 := by decide +kernel
theorem pl1 : (Str.ofString "</").length = 2 := by decide +kernel
theorem pl2 : (Str.ofString ">").length = 1 := by decide +kernel
theorem pl3 : (Str.ofString "<").length = 1 := by decide +kernel
theorem pl4 : (Str.ofString " ").length = 1 := by decide +kernel
theorem pl5 : (Str.ofString "=\"").length = 2 := by decide +kernel
theorem pl6 : (Str.ofString "\"").length = 1 := by decide +kernel
theorem kl_last_push (its : Array Value) (v : Value) : kl_last (its.push v).toList = some (its.toList, v) := by
  refine @Mine.sqz _ ?zmain ?zfin
  case zmain =>
    cases e : kl_last (its.push v).toList with
    | none => have := kl_last_none e; simp at this
    | some r =>
      obtain ⟨p, y⟩ := r
      have h := kl_last_spec e
      rw [Array.toList_push] at h
      obtain ⟨h1, h2⟩ := List.append_inj' h rfl
      rw [h1, List.singleton_inj.mp h2]
  case zfin => run_tac Mine.sq
end Mine

theorem Mine.row_lines4 : True := by
  k_with "@lines4@call type:set cons nil" => ((k_here; k_dflt (refine' Mine.set_one_K ?k1 ?k2 ?k3 ?k4 ?_; (case k1 => exact rfl); (case k2 => k_asm); (case k3 => k_asm); (case k4 => exact News.isList (by k_asm) (by run_tac Mine.memT))); intro D' h' tk' o' F' N' l1 hso'; (try k_lt l1)))
  trivial
theorem Mine.row_lines5 : True := by
  k_with "@lines5@getMethod ref" => ((k_here; (with_reducible show wpAny _ _ (getMethod (Value.ref _) (PySem.Str.ofString "items") _) _ _ _); k_dflt (refine' Mine.items_method_K ?F ?X ?l ?k ?n ?_; (case F => k_asm); (case X => k_asm); (case l => k_is); (case k => k_keys); (case n => exact of_decide_eq_true (by kernel_rfl)))))
  k_with "@lines5@call builtin:dict.items" => ((k_here; (with_reducible show wpAny _ _ (call (Value.builtin "dict.items") [Value.ref _]) _ _ _); k_dflt (refine' Mine.items_view_K ?F ?X ?N ?l ?k ?n ?o ?_; (case F => k_asm); (case X => k_asm); (case N => k_asm); (case l => k_is); (case k => k_keys); (case n => exact of_decide_eq_true (by kernel_rfl)); (case o => decide)); intro D' h' F' N' l1; (try k_lt l1)))
  k_with "@lines5@call type:list" => ((k_here; (with_reducible show wpAny _ _ (call (Value.type "list") [Value.ref _]) _ _ _); k_dflt (refine' Mine.items_list_K ?h ?F ?X ?N ?l ?k ?n ?z ?_; (case h => exact rfl); (case F => k_asm); (case X => k_asm); (case N => k_asm); (case l => k_is); (case k => k_keys); (case n => exact of_decide_eq_true (by kernel_rfl)); (case z => exact Nat.le_of_ble_eq_true rfl)); intro B' h' tk' its' c' F' N' l1; (try k_lt l1)))
  trivial
theorem Mine.row_lines6 : True := by
  k_with "@lines6@k_all" => ((refine List.forall_mem_append.mpr ⟨?_, ?_⟩ <;> k_all))
  k_with "@lines6@k_all" => ((refine' Mine.tabs_apartS ?N ?s ?T ?m ?r; (case N => k_asm); (case T => assumption); (case s => (repeat' (first | exact Mine.Split.app | exact Mine.Split.nil | refine' Mine.Split.cons ?_))); (case m => run_tac Mine.memT); (case r => first | exact rfl | exact Mine.isTabE_cell (by assumption))))
  k_with "@lines6@call ref" => ((k_here; k_dflt (refine' wpAny_call (Mine.push_cU ?cB ?cF ?cX ?cN ?cT ?cf ?ck ?cd ?cu ?c1 ?c2 ?c3 ?_); (case cB => k_asm); (case cF => k_asm); (case cX => k_asm); (case cN => k_asm); (case cT => k_asm); (case cf => exact rfl); (case ck => exact rfl); (case cd => ((try dsimp only [Around.deeper, Around.in1]); first | exact Nat.lt_of_lt_of_le (by assumption) (by decide) | exact Nat.lt_of_lt_of_le (Nat.succ_lt_succ (by assumption)) (by decide) | exact Nat.lt_of_lt_of_le (Nat.succ_lt_succ (Nat.succ_lt_succ (by assumption))) (by decide) | omega)); (case cu => ((try dsimp only [Around.deeper, Around.in1]); first | exact Nat.lt_of_lt_of_le (by assumption) (by decide) | exact Nat.lt_of_lt_of_le (Nat.succ_lt_succ (by assumption)) (by decide) | exact Nat.lt_of_lt_of_le (Nat.succ_lt_succ (Nat.succ_lt_succ (by assumption))) (by decide) | omega)); (case c1 => k_updF); (case c2 => run_tac Mine.memT); (case c3 => first | assumption | omega)); intro t' h' tk' F' N' l1; (try dsimp only at N'); (try k_lt l1)))
  k_with "@lines6@call ref" => ((k_here; k_dflt (refine' wpAny_call (Mine.len_cS ?cB ?cF ?cX ?cN ?cT ?cf ?ck ?cd ?cu ?cs ?cE ?cTt ?c1 ?c2 ?c3 ?c4 ?c5 ?c6 ?_); (case cB => k_asm); (case cF => k_asm); (case cX => k_asm); (case cN => k_asm); (case cT => k_asm); (case cf => exact rfl); (case ck => exact rfl); (case cd => ((try dsimp only [Around.deeper, Around.in1]); first | exact Nat.lt_of_lt_of_le (by assumption) (by decide) | exact Nat.lt_of_lt_of_le (Nat.succ_lt_succ (by assumption)) (by decide) | exact Nat.lt_of_lt_of_le (Nat.succ_lt_succ (Nat.succ_lt_succ (by assumption))) (by decide) | omega)); (case cu => ((try dsimp only [Around.deeper, Around.in1]); first | exact Nat.lt_of_lt_of_le (by assumption) (by decide) | exact Nat.lt_of_lt_of_le (Nat.succ_lt_succ (by assumption)) (by decide) | exact Nat.lt_of_lt_of_le (Nat.succ_lt_succ (Nat.succ_lt_succ (by assumption))) (by decide) | omega)); (case cTt => assumption); (case cs => (repeat' (first | exact Mine.Split.app | exact Mine.Split.nil | refine' Mine.Split.cons ?_))); (case cE => (repeat' (first | assumption | (refine List.forall_mem_cons.mpr ⟨?_, ?_⟩) | exact List.forall_mem_nil _ | exact rfl | exact Mine.isTabE_cell (by assumption) | exact Mine.isTabE_dict (by assumption) | fail))); (case c1 => run_tac Mine.memT); (case c2 => run_tac Mine.memT); (case c3 => first | exact .inl rfl | exact .inr rfl); (case c4 => first | assumption | exact Mine.AccIs.pushX (by assumption) (by intro p hp; repeat' (first | exact hp | refine List.Mem.tail _ ?_)) (by run_tac Mine.memT)); (case c5 => assumption); (case c6 => assumption)); intro Tn' h' g' t' tk' hT' hle' F' N' hg'; (try simp only [List.cons_append, List.nil_append] at N'); k_dflt (first | refine ⟨⟨by omega, by omega⟩, ?_⟩ | skip)))
  k_with "@lines6@eval Lambda" => ((k_here; k_dflt (refine' kla_eval ?d0 ?_; (case d0 => exact rfl)); k_dflt (first | (refine' Mine.lam_T (P := 286) (c := 288) (qn := "_law_rows.<locals>.<lambda>") ?F ?N ?s ?X ?T ?T0 ?C ?cd ?P ?q ?cl ?_; (case cd => exact rfl); (case F => k_asm); (case N => k_asm); (case T => assumption); (case s => (repeat' (first | exact Mine.Split.app | exact Mine.Split.nil | refine' Mine.Split.cons ?_))); (case X => (repeat' (first | assumption | (refine List.forall_mem_cons.mpr ⟨?_, ?_⟩) | exact List.forall_mem_nil _ | exact rfl | exact Mine.isTabE_cell (by assumption) | exact Mine.isTabE_dict (by assumption) | fail))); (case T0 => k_asm); (case C => exact codeHd_of_K (by k_asm) (by kernel_rfl)); (case q => exact rfl); (case P => decide); (case cl => exact rfl)) | (refine' Mine.lam_T (P := 291) (c := 293) (qn := "_law_found.<locals>.<lambda>") ?F ?N ?s ?X ?T ?T0 ?C ?cd ?P ?q ?cl ?_; (case cd => exact rfl); (case F => k_asm); (case N => k_asm); (case T => assumption); (case s => (repeat' (first | exact Mine.Split.app | exact Mine.Split.nil | refine' Mine.Split.cons ?_))); (case X => (repeat' (first | assumption | (refine List.forall_mem_cons.mpr ⟨?_, ?_⟩) | exact List.forall_mem_nil _ | exact rfl | exact Mine.isTabE_cell (by assumption) | exact Mine.isTabE_dict (by assumption) | fail))); (case T0 => k_asm); (case C => exact codeHd_of_K (by k_asm) (by kernel_rfl)); (case q => exact rfl); (case P => decide); (case cl => exact rfl)) | (refine' Mine.lam_T (P := 296) (c := 298) (qn := "_law_sheet.<locals>.<lambda>") ?F ?N ?s ?X ?T ?T0 ?C ?cd ?P ?q ?cl ?_; (case cd => exact rfl); (case F => k_asm); (case N => k_asm); (case T => assumption); (case s => (repeat' (first | exact Mine.Split.app | exact Mine.Split.nil | refine' Mine.Split.cons ?_))); (case X => (repeat' (first | assumption | (refine List.forall_mem_cons.mpr ⟨?_, ?_⟩) | exact List.forall_mem_nil _ | exact rfl | exact Mine.isTabE_cell (by assumption) | exact Mine.isTabE_dict (by assumption) | fail))); (case T0 => k_asm); (case C => exact codeHd_of_K (by k_asm) (by kernel_rfl)); (case q => exact rfl); (case P => decide); (case cl => exact rfl)) | (refine' Mine.lam_T (P := 234) (c := 236) (qn := "C14NWriterTarget._start.<locals>.<lambda>") ?F ?N ?s ?X ?T ?T0 ?C ?cd ?P ?q ?cl ?_; (case cd => exact rfl); (case F => k_asm); (case N => k_asm); (case T => assumption); (case s => (repeat' (first | exact Mine.Split.app | exact Mine.Split.nil | refine' Mine.Split.cons ?_))); (case X => (repeat' (first | assumption | (refine List.forall_mem_cons.mpr ⟨?_, ?_⟩) | exact List.forall_mem_nil _ | exact rfl | exact Mine.isTabE_cell (by assumption) | exact Mine.isTabE_dict (by assumption) | fail))); (case T0 => k_asm); (case C => exact codeHd_of_K (by k_asm) (by kernel_rfl)); (case q => exact rfl); (case P => decide); (case cl => exact rfl))); intro f' c' oc' ct' h' tk' Tn' F' N' hT' hle' hci' l1; (try dsimp only at N'); (try k_lt l1); (try simp only [List.cons_append, List.nil_append] at N')))
  k_with "@lines6@call builtin:len" => ((k_here; (with_reducible show wpAny _ _ (call (Value.builtin "len") [Value.ref _]) _ _ _); k_dflt (refine' PyProof.Rows.len_list ?k1 ?k2 ?_; (case k1 => exact News.isList (by k_asm) (by run_tac Mine.memT)); (case k2 => first | omega | (simp only [Array.size_push]; omega)))))
  trivial
theorem Mine.row_lines7 : True := by
  k_with "@lines7@compareOp In str ref" => ((k_here; k_dflt (refine' Mine.set_in_mem ?N ?m ?d ?z ?_; (case N => k_asm); (case m => run_tac Mine.memT); (case d => assumption); (case z => first | decide | (unfold scanBound; decide))); (try dsimp only)))
  trivial
theorem Mine.row_lines8 : True := by
  k_with "@lines8@call ref" => ((k_here; (with_reducible show wpAny _ _ (call (Value.ref 56) _ _) _ _ _); k_dflt (refine' wpAny_call (Mine.ins_cU ?cB ?cF ?cX ?cN ?cT ?cf ?ck ?cd ?cu ?c1 ?c2 ?c3 ?c4 ?c5 ?c6 ?c7 ?c8 ?_); (case cB => k_asm); (case cF => k_asm); (case cX => k_asm); (case cN => k_asm); (case cT => k_asm); (case cf => exact rfl); (case ck => exact rfl); (case cd => ((try dsimp only [Around.deeper, Around.in1]); first | exact Nat.lt_of_lt_of_le (by assumption) (by decide) | exact Nat.lt_of_lt_of_le (Nat.succ_lt_succ (by assumption)) (by decide) | exact Nat.lt_of_lt_of_le (Nat.succ_lt_succ (Nat.succ_lt_succ (by assumption))) (by decide) | omega)); (case cu => ((try dsimp only [Around.deeper, Around.in1]); first | exact Nat.lt_of_lt_of_le (by assumption) (by decide) | exact Nat.lt_of_lt_of_le (Nat.succ_lt_succ (by assumption)) (by decide) | exact Nat.lt_of_lt_of_le (Nat.succ_lt_succ (Nat.succ_lt_succ (by assumption))) (by decide) | omega)); (case c1 => k_updF); (case c2 => assumption); (case c3 => assumption); (case c4 => exact ⟨_, _, by run_tac Mine.memT, rfl⟩); (case c7 => exact Mine.len_pred (by assumption)); (case c8 => omega); (case c6 => omega); (case c5 => (refine' Mine.key_lam ?k1 ?k2 ?k3 ?k4 ?k5 ?k6 ?k7 ?k8; (case k1 => run_tac Mine.memT); (case k2 => run_tac Mine.memT); (case k3 => assumption); (case k4 => run_tac Mine.memT); (case k5 => assumption); (case k6 => (intro p hp; repeat' (first | exact List.mem_append_right _ hp | refine List.Mem.tail _ ?_))); (case k8 => exact Mine.rows_hv (by assumption) (Mine.rows_hx (by assumption) (by assumption))); (case k7 => omega)))); intro h' tk' n' F' N'; (try dsimp only at N')))
  k_with "@lines8@call ref" => ((k_here; (with_reducible show wpAny _ _ (call (Value.ref 56) [_, _]) _ _ _); k_dflt (refine' wpAny_call (Mine.ins2_cU ?cB ?cF ?cX ?cN ?cT ?cf ?ck ?cd ?cu ?c1 ?c2 ?c3 ?_); (case cB => k_asm); (case cF => k_asm); (case cX => k_asm); (case cN => k_asm); (case cT => k_asm); (case cf => exact rfl); (case ck => exact rfl); (case cd => ((try dsimp only [Around.deeper, Around.in1]); first | exact Nat.lt_of_lt_of_le (by assumption) (by decide) | exact Nat.lt_of_lt_of_le (Nat.succ_lt_succ (by assumption)) (by decide) | exact Nat.lt_of_lt_of_le (Nat.succ_lt_succ (Nat.succ_lt_succ (by assumption))) (by decide) | omega)); (case cu => ((try dsimp only [Around.deeper, Around.in1]); first | exact Nat.lt_of_lt_of_le (by assumption) (by decide) | exact Nat.lt_of_lt_of_le (Nat.succ_lt_succ (by assumption)) (by decide) | exact Nat.lt_of_lt_of_le (Nat.succ_lt_succ (Nat.succ_lt_succ (by assumption))) (by decide) | omega)); (case c1 => k_updF); (case c2 => assumption); (case c3 => omega)); intro h' tk' n' F' N'; (try dsimp only at N')))
  k_with "@lines8@subscriptTail" => ((k_here; (with_reducible show wpAny _ _ (subscriptTail _ _ (Value.ref _) (Value.int (-1) _)) _ _ _); k_dflt (refine' Mine.item_last ?k1 ?_; (case k1 => exact News.isList (by k_asm) (by run_tac Mine.memT)))))
  k_with "@lines8@CompSrcT" => ((k_here; k_dflt (refine' LCt.CompSrcT.ledger ?a1 ?a2 ?a3 ?a4 ?a5 ?_; (case a1 => rfl); (case a2 => k_asm); (case a3 => k_asm); (case a4 => run_tac Mine.memT); (case a5 => size_fits); intro g'; refine' Mine.none_rest (fun _ => rfl) (fun _ => rfl) ?b1 ?b2 ?b3 ?_ _ _; (case b1 => decide); (case b2 => assumption); (case b3 => exact .inr ⟨_, by run_tac Mine.memT, rfl, _, rfl⟩))))
  trivial
theorem Mine.row_lines9 : True := by
  k_with "@lines9@getMethod ref" => ((k_here; (with_reducible show wpAny _ _ (getMethod (Value.ref _) (PySem.Str.ofString "_iter_namespaces") _) _ _ _); k_dflt (refine' Mine.method_shadow ?k1 ?k2 ?k3 ?k4 ?k5 ?k6 ?k7 ?k8 ?_; (case k1 => k_asm); (case k2 => k_asm); (case k3 => (refine' Mine.InstAt.of_newsA ?iN ?ih1 ?ih2 ?ih3; (case iN => k_asm); (case ih1 => run_tac Mine.memT); (case ih2 => run_tac Mine.memT); (case ih3 => exact rfl))); (case k4 => exact rfl); (case k5 => k_is); (case k6 => k_is); (case k7 => k_is); (case k8 => k_get); k_whole)))
  k_with "@lines9@getAttr ref" => ((k_here; (with_reducible show wpAny _ _ (getAttr (Value.ref _) (PySem.Str.ofString "_iter_namespaces") _) _ _ _); k_dflt (refine' Mine.get_shadow ?k1 ?k2 ?k3 ?k4 ?k5 ?k6 ?k7 ?k8 ?k9 ?k10 ?_; (case k1 => k_asm); (case k2 => k_asm); (case k3 => (refine' Mine.InstAt.of_newsA ?iN ?ih1 ?ih2 ?ih3; (case iN => k_asm); (case ih1 => run_tac Mine.memT); (case ih2 => run_tac Mine.memT); (case ih3 => exact rfl))); (case k4 => k_is); (case k5 => k_is); (case k6 => k_is); (case k7 => k_is); (case k8 => k_is); (case k9 => k_get); (case k10 => exact rfl); k_whole)))
  k_with "@lines9@And" => ((k_here; k_dflt (refine' And.intro ?k1 ?_; (case k1 => first | exact Mine.FnAt.of (by k_asm) (by assumption) | exact Mine.FnAt.sub (by k_asm) (by assumption) (by intro p hp; repeat' (first | exact hp | exact List.mem_append_left _ hp | refine List.Mem.tail _ ?_))))))
  trivial
theorem Mine.row_lines10 : True := by
  k_with "@lines10@exec For Tuple Call cons nil" => ((k_here; refine wpAny_For ?_))
  k_with "@lines10@call ref" => ((k_here; k_dflt (refine' wpAny_call (Mine.IterSpec.use ?cS ?cB ?cF ?cX ?cN ?cT ?cf ?ck ?cd ?cu ?cC ?c1 ?c2 ?c3 ?c4 ?_); (case cS => assumption); (case cB => k_asm); (case cF => k_asm); (case cX => k_asm); (case cN => k_asm); (case cT => k_asm); (case cf => exact rfl); (case ck => exact rfl); (case cd => ((try dsimp only [Around.deeper, Around.in1]); first | exact Nat.lt_of_lt_of_le (by assumption) (by decide) | exact Nat.lt_of_lt_of_le (Nat.succ_lt_succ (by assumption)) (by decide) | exact Nat.lt_of_lt_of_le (Nat.succ_lt_succ (Nat.succ_lt_succ (by assumption))) (by decide) | omega)); (case cu => ((try dsimp only [Around.deeper, Around.in1]); first | exact Nat.lt_of_lt_of_le (by assumption) (by decide) | exact Nat.lt_of_lt_of_le (Nat.succ_lt_succ (by assumption)) (by decide) | exact Nat.lt_of_lt_of_le (Nat.succ_lt_succ (Nat.succ_lt_succ (by assumption))) (by decide) | omega)); (case cC => first | assumption | exact Mine.sub2 (by assumption) (by intro p hp; repeat' (first | exact hp | refine List.Mem.tail _ ?_))); (case c1 => run_tac Mine.memT); (case c2 => run_tac Mine.memT); (case c3 => first | assumption | exact Mine.StackIs.mono (by assumption) (by intro p hp; repeat' (first | exact hp | refine List.Mem.tail _ ?_))); (case c4 => assumption)); intro D' h' tk' n' F' N' l1; (try k_lt l1)))
  k_with "@lines10@pyIter ref" => ((k_here; k_dflt (refine' Mine.for_one ?k1 ?k2 ?k3 ?k4 ?_; (case k1 => exact rfl); (case k2 => k_asm); (case k3 => k_asm); (case k4 => run_tac Mine.memT)); intro h' tk' it' E' F' N' d9'; (have d8' := Mine.allNe_of d9'); (try simp only [Mine.AllNe, and_true] at d8'); (try dsimp only [Mine.St]); k_dflt (refine wpAny_letOwnedTupleGo_listiter ⟨_, (N' _ (.head _)).1, rfl, rfl⟩ ?_)))
  k_with "@lines10@OneEnd" => ((k_dflt (refine' Mine.OneEnd.intro ?k1 ?k2 ?k3 ?k4 ?_; (case k1 => k_asm); (case k2 => k_asm); (case k3 => run_tac Mine.memT); (case k4 => (repeat' (first | exact Mine.ne_sub (by assumption) (by intro p hp; repeat' (first | exact hp | refine List.Mem.tail _ ?_)) | (refine List.forall_mem_cons.mpr ⟨by k_ne, ?_⟩) | exact List.forall_mem_nil _ | fail)))); intro h' tk' F' N'))
  trivial
theorem Mine.use_M64 : True := by
  w_top off
  run_tac Mine.use ["linesP", "lines", "clines", "clines2", "lines3", "lines4", "lines5", "lines6", "lines7", "lines8", "lines9", "lines10", "linesZZ"]
  trivial
namespace Mine
theorem qname_c {w : World} {A₀ : Around} {base h₀ : Heap} {outer : List Env} {env : Env} {L : Addr} {m : Str → Option Value} {s : Shared} {lo me} {mg mb} {R : Result → Shared → Prop} {d u : Nat} {gd : Option (List Code)}
 {x dx wf dl es ds ns pm pr itf l4 tp : Addr} {rs rd : Bool} {ig : Int} {ti tt tp1 tp2 : Tok} {nd n4 : Nat} {wt : WT} {tag : Str} {news C : List (Addr × Obj)} {dsi : Array Value}
 (B : Below A₀ base outer h₀) (F : Fr h₀ L s.heap m) (X : (Mine.hd.heap_39 w.params).In h₀) (N : News h₀ L s.heap news) (T0 : Top topProg lo me mg mb h₀) (hf : env.frame = some L) (hke : env.scope.kind = .function) (hd : d < 400) (hu : u < 400)
 (hx : (x, instObj 261 dx) ∈ news) (hdx : (dx, wrD w wt wf dl es ds ns pm pr itf rs rd ig ti) ∈ news) (hds : (ds, W.listOf dsi nd) ∈ news) (h4 : (l4, W.listOf #[.ref tp] n4) ∈ news) (htp : (tp, xmlTup tp1 tp2) ∈ news) (hst : StackIs news dsi l4) (hz : dsi.size ≤ 50) (hC : ∀ p ∈ C, p ∈ news) (hit : IterSpec w itf l4 tp C) (hif : ∃ fo fd, (itf, fo) ∈ news ∧ fo.data = .func fd)
 (htg : (Txt.slice tag none (some 1) == Str.ofString "{") = false) (htl : tag.length ≤ 100)
 (h : ∀ t h' tk' t1 t2 t3, Fr h₀ L h' m → News h₀ L h' ((t, tupO [.str tag t1, .str tag t2, .str (Str.ofString "") t3]) :: news) → (∀ p ∈ news, p.1 < t) → R (.ok (.ret (.ref t))) (St s h' s.gens tk'))
 :
 codeAny (model Challenge.rw_if0017_01.row.prog w) (Around.mk none d (some (env :: outer)) gd u) (.call (.ref 201) ⟨[.ref x, .str tag tt], []⟩) R s := by
  refine @Mine.sqz _ ?zmain ?zfin
  case zmain =>
    revert X; k_fill; intro X
    k_data
    k_steps
    refine OneEnd.intro (by assumption) (by assumption) (by k_mem) ?d ?_
    case d => (repeat' (first | (refine List.forall_mem_cons.mpr ⟨by k_ne, ?_⟩) | exact List.forall_mem_nil _ | exact Mine.ne_sub (by assumption) (by intro p hp; repeat' (first | exact hp | refine List.Mem.tail _ ?_)) | fail))
    intro h2 tk2 F2 N2
    (try dsimp only [Mine.St])
    k_steps
    rename_i lz kF kN Tc kX
    exact h _ _ _ _ _ _ kF (news_sub kN fun p hp => (List.mem_cons.mp hp).elim (fun e => e ▸ .head _) fun h => .tail _ (.tail _ (.tail _ (.tail _ h)))) (allLt_mem lz.2.2.2)
  case zfin => run_tac Mine.sq
end Mine

theorem Mine.use_M65a : True := by
  w_top off
  run_tac Mine.use ["linesP", "linesZZ"]
  trivial
namespace Mine
theorem list_pop_U {prog : Program} {w : World} {A : Around} {E : Value → Shared → Prop} {s : Shared} {h₀ : Heap} {L D : Addr} {m : Str → Option Value} {news : List (Addr × Obj)} {g : Obj → List (Addr × Obj)} {its : Array Value} {v : Value} {n : Nat} {Q : Value → Shared → Prop} (F : Fr h₀ L s.heap m) (N : News h₀ L s.heap news) (U : UpdF D (W.listOf (its.push v) n) news g) (hz : its.size ≤ 100)
    (h : ∀ h', Fr h₀ L h' m → News h₀ L h' (g (W.listOf its (n + 1))) → Q v { s with heap := h' }) : wpAny (model prog w) A (call (.builtin "list.pop") [.ref D]) Q E s := by
  refine @Mine.sqz _ ?zmain ?zfin
  case zmain =>
    obtain ⟨rest, e1, e2, e3⟩ := updF_head U
    refine kl_pop F (news_sub N fun p hp => (e1 p).mpr hp) (kl_last_push its v) (Upd.head e3) (by rw [Array.length_toList, Array.size_push, sizeLine_eq]; omega) fun h' F' N' => h h' F' (news_sub N' fun p hp => ?_)
    rw [Array.toArray_toList]
    exact (e2 _ p).mp hp
  case zfin => run_tac Mine.sq
end Mine

theorem Mine.use_M60 : True := by
  w_top off
  run_tac Mine.use ["linesP", "lines", "clines", "clines2", "lines3", "lines4", "lines5", "linesZZ"]
  trivial
namespace Mine
theorem map_cons {m m' : Str → Option Value} {x : Str} {v : Value} (h : m x = some v) (e : m = m') : m = fun y => if y = x then some v else m' y := by
  subst e
  exact map1 h
theorem fr_map9 {h₀ h : Heap} {L : Addr} {m : Str → Option Value} (F : Fr h₀ L h m) {k1 k2 k3 k4 k5 k6 k7 k8 k9 : Str} {v1 v2 v3 v4 v5 v6 v7 v8 v9 : Value} (q1 : m k1 = some v1) (q2 : m k2 = some v2) (q3 : m k3 = some v3) (q4 : m k4 = some v4) (q5 : m k5 = some v5) (q6 : m k6 = some v6) (q7 : m k7 = some v7) (q8 : m k8 = some v8) (q9 : m k9 = some v9) :
    ∃ m0 : Str → Option Value, Fr h₀ L h (fun y => if y = k1 then some v1 else if y = k2 then some v2 else if y = k3 then some v3 else if y = k4 then some v4 else if y = k5 then some v5 else if y = k6 then some v6 else if y = k7 then some v7 else if y = k8 then some v8 else if y = k9 then some v9 else m0 y) :=
  have e : m = fun y => if y = k1 then some v1 else if y = k2 then some v2 else if y = k3 then some v3 else if y = k4 then some v4 else if y = k5 then some v5 else if y = k6 then some v6 else if y = k7 then some v7 else if y = k8 then some v8 else if y = k9 then some v9 else m y := (map_cons q1 (map_cons q2 (map_cons q3 (map_cons q4 (map_cons q5 (map_cons q6 (map_cons q7 (map_cons q8 (map_cons q9 rfl)))))))))
  ⟨m, by rw [← e]; exact F⟩
theorem cinit_c {w : World} {A₀ : Around} {base h₀ : Heap} {outer : List Env} {env : Env} {L : Addr} {m : Str → Option Value} {s : Shared} {lo me} {mg mb} {R : Result → Shared → Prop} {d u : Nat} {gd : Option (List Code)}
 {x dx wf bl : Addr} {n : Nat} {tb : Tok} {rest : List (Addr × Obj)}
 (B : Below A₀ base outer h₀) (F : Fr h₀ L s.heap m) (X : (Mine.hd.heap_39 w.params).In h₀) (N : News h₀ L s.heap ((x, instObj 261 dx) :: (dx, W.dictOf [] 0) :: (bl, W.listOf #[.str (Str.ofString "b") tb] n) :: rest)) (T0 : Top topProg lo me mg mb h₀) (hf : env.frame = some L) (hke : env.scope.kind = .function) (hd : d < 330) (hu : u < 100)
 (hda : dx < x) (hr : ∀ p ∈ rest, p.1 < dx) (hblx : bl < dx)
 (h : ∀ h' tk' wt tp1 tp2 dl es oes tp l4 ds ns pr pm nsi ti nn, Fr h₀ L h' m → ExclB w oes → (x < dl ∧ dl < es ∧ es < tp ∧ tp < l4 ∧ l4 < ds ∧ ds < ns ∧ ns < pr ∧ nsi.size ≤ 2) →
   News h₀ L h' ((pr, W.listOf #[.bool false] 0) :: (ns, W.listOf nsi nn) :: (ds, W.listOf #[.ref l4] 0) :: (l4, W.listOf #[.ref tp] 0) :: (tp, xmlTup tp1 tp2) :: (es, oes) :: (dl, W.listOf #[] 0) :: (x, instObj 261 dx) :: (dx, wrD0 w wt wf dl es ds ns pm pr ti) :: (bl, W.listOf #[.str (Str.ofString "b") tb] n) :: rest) → R (.ok (.ret .none)) (St s h' s.gens tk'))
 :
 codeAny (model Challenge.rw_if0017_01.row.prog w) (Around.mk none d (some (env :: outer)) gd u) (.call (.ref 178) ⟨[.ref x, .ref wf], [(Str.ofString "exclude_tags", .ref bl)]⟩) R s := by
  refine @Mine.sqz _ ?zmain ?zfin
  case zmain =>
    replace hda := ltN hda
    replace hblx := ltN hblx
    have hrx : AllLt x rest := allLt_of fun p hp => Nat.lt_trans (hr p hp) hda
    replace hr := allLt_of hr
    have hemp : (#[Value.str (Str.ofString "b") tb] : Array Value).isEmpty = false := rfl
    revert X; k_fill; intro X
    k_data
    rename_i g1 L1 h1 FG1 F1 N1 B1 X1 T1
    obtain ⟨m0, F2⟩ := fr_map9 F1 (v1 := .ref x) (v2 := .ref wf) (v3 := .bool false) (v4 := .bool false) (v5 := .bool false) (v6 := .none) (v7 := .none) (v8 := .none) (v9 := .ref bl) (k1 := Str.ofString "self") (k2 := Str.ofString "write") (k3 := Str.ofString "with_comments") (k4 := Str.ofString "strip_text") (k5 := Str.ofString "rewrite_prefixes") (k6 := Str.ofString "qname_aware_tags") (k7 := Str.ofString "qname_aware_attrs") (k8 := Str.ofString "exclude_attrs") (k9 := Str.ofString "exclude_tags") (by kernel_rfl) (by kernel_rfl) (by kernel_rfl) (by kernel_rfl) (by kernel_rfl) (by kernel_rfl) (by kernel_rfl) (by kernel_rfl) (by kernel_rfl)
    clear F1
    k_steps
    rename_i kF kN Tc kX
    refine h _ _ ⟨_, _, _, _, _, _, _, _, _, _, _, _, _, _, _, _, _, 0⟩ _ _ _ _ _ _ _ _ _ _ _ _ _ _ kF ?q1 ?q2 (news_drop3 kN)
    case q1 => assumption
    case q2 => refine ⟨?_, ?_, ?_, ?_, ?_, ?_, ?_, Nat.le_of_ble_eq_true rfl⟩ <;> (refine ltN ?_) <;> omega
  case zfin => run_tac Mine.sq
end Mine

theorem Mine.use_M62 : True := by
  w_top off
  run_tac Mine.use ["linesP", "lines", "clines", "clines2", "lines3", "lines4", "lines5", "lines6", "lines7", "linesZZ"]
  trivial
namespace Mine
section
theorem Mine.row_M62_62_starti_0 : True := by
  k_with "@62_starti_0@compareOp In str ref" => ((k_here; exfalso; omega))
  trivial

theorem Mine.use_M62_62_starti_0 : True := by
  w_top off
  run_tac Mine.use ["linesP", "lines", "clines", "clines2", "lines3", "lines4", "lines5", "lines6", "lines7", "linesZZ", "62_starti_0"]
  trivial

theorem starti_c {w : World} {A₀ : Around} {base h₀ : Heap} {outer : List Env} {env : Env} {L : Addr} {m : Str → Option Value} {s : Shared} {lo me} {mg mb} {R : Result → Shared → Prop} {d u : Nat} {gd : Option (List Code)}
 {x dx wf dl es ds ns pm pr itf at_ : Addr} {rs rd : Bool} {ig : Int} {ti tt : Tok} {n : Nat} {wt : WT} {tag : Str} {rest : List (Addr × Obj)} {oes : Obj}
 (B : Below A₀ base outer h₀) (F : Fr h₀ L s.heap m) (X : (Mine.hd.heap_39 w.params).In h₀) (N : News h₀ L s.heap ((x, instObj 261 dx) :: (dx, wrD w wt wf dl es ds ns pm pr itf rs rd ig ti) :: rest)) (T0 : Top topProg lo me mg mb h₀) (hf : env.frame = some L) (hke : env.scope.kind = .function) (hd : d < 400) (hu : u < 400)
 (hda : dx < x) (hr : ∀ p ∈ rest, p.1 ≠ dx) (hig : 0 < ig) (hig2 : ig < 100)
 (h : ∀ h' tk' ti', Fr h₀ L h' m → News h₀ L h' ((x, instObj 261 dx) :: (dx, wrD w wt wf dl es ds ns pm pr itf rs rd (ig + 1) ti') :: rest) → R (.ok (.ret .none)) (St s h' s.gens tk'))
 :
 codeAny (model Challenge.rw_if0017_01.row.prog w) (Around.mk none d (some (env :: outer)) gd u) (.call (.ref 231) ⟨[.ref x, .str tag tt, .ref at_], []⟩) R s := by
  refine @Mine.sqz _ ?zmain ?zfin
  case zmain =>
    replace hda := ltN hda
    have hne : ig ≠ 0 := by omega
    revert X; k_fill; intro X
    k_data
    k_steps
    exact h _ _ _ (by assumption) (by assumption)
  case zfin => run_tac Mine.sq
end
theorem startb_c {w : World} {A₀ : Around} {base h₀ : Heap} {outer : List Env} {env : Env} {L : Addr} {m : Str → Option Value} {s : Shared} {lo me} {mg mb} {R : Result → Shared → Prop} {d u : Nat} {gd : Option (List Code)}
 {x dx wf dl es ds ns pm pr itf at_ : Addr} {rs rd : Bool} {ti tt : Tok} {n : Nat} {wt : WT} {rest : List (Addr × Obj)} {oes : Obj}
 (B : Below A₀ base outer h₀) (F : Fr h₀ L s.heap m) (X : (Mine.hd.heap_39 w.params).In h₀) (N : News h₀ L s.heap ((x, instObj 261 dx) :: (dx, wrD w wt wf dl es ds ns pm pr itf rs rd 0 ti) :: rest)) (T0 : Top topProg lo me mg mb h₀) (hf : env.frame = some L) (hke : env.scope.kind = .function) (hd : d < 400) (hu : u < 400)
 (hda : dx < x) (hr : ∀ p ∈ rest, p.1 ≠ dx) (hes : (es, oes) ∈ rest) (hex : ExclB w oes)
 (h : ∀ h' tk' ti', Fr h₀ L h' m → News h₀ L h' ((x, instObj 261 dx) :: (dx, wrD w wt wf dl es ds ns pm pr itf rs rd 1 ti') :: rest) → R (.ok (.ret .none)) (St s h' s.gens tk'))
 :
 codeAny (model Challenge.rw_if0017_01.row.prog w) (Around.mk none d (some (env :: outer)) gd u) (.call (.ref 231) ⟨[.ref x, .str (Str.ofString "b") tt, .ref at_], []⟩) R s := by
  refine @Mine.sqz _ ?zmain ?zfin
  case zmain =>
    replace hda := ltN hda
    revert X; k_fill; intro X
    k_data
    k_steps
    exact h _ _ _ (by assumption) (by assumption)
  case zfin => run_tac Mine.sq
end Mine

theorem Mine.use_M67 : True := by
  w_top off
  run_tac Mine.use ["linesP", "lines", "clines", "clines2", "lines3", "lines4", "lines5", "linesZZ"]
  trivial
namespace Mine
section
theorem sgn0 : ∀ sg ∈ signs, (Builtin.Str.occurrences (dbl sg) (Str.ofString "&") 0 (dbl sg).length 1).isEmpty = false → sg = Str.ofString "&" ∧ dbl sg = Str.ofString "&&" ∧ dbl (markF sg) = Str.ofString "&amp;&amp;" := by decide +kernel
theorem sgn1 : ∀ sg ∈ signs, (Builtin.Str.occurrences (dbl sg) (Str.ofString "<") 0 (dbl sg).length 1).isEmpty = false → sg = Str.ofString "<" ∧ dbl sg = Str.ofString "<<" ∧ dbl (markF sg) = Str.ofString "&lt;&lt;" := by decide +kernel
theorem sgn2 : ∀ sg ∈ signs, (Builtin.Str.occurrences (dbl sg) (Str.ofString "\"") 0 (dbl sg).length 1).isEmpty = false → sg = Str.ofString "\"" ∧ dbl sg = Str.ofString "\"\"" ∧ dbl (markF sg) = Str.ofString "&quot;&quot;" := by decide +kernel
theorem sgn3 : ∀ sg ∈ signs, (Builtin.Str.occurrences (dbl sg) (Str.ofString "\t") 0 (dbl sg).length 1).isEmpty = false → sg = Str.ofString "\t" ∧ dbl sg = Str.ofString "\t\t" ∧ dbl (markF sg) = Str.ofString "&#x9;&#x9;" := by decide +kernel
theorem sgn4 : ∀ sg ∈ signs, (Builtin.Str.occurrences (dbl sg) (Str.ofString "\n") 0 (dbl sg).length 1).isEmpty = false → sg = Str.ofString "\n" ∧ dbl sg = Str.ofString "\n\n" ∧ dbl (markF sg) = Str.ofString "&#xA;&#xA;" := by decide +kernel
theorem sgn5 : ∀ sg ∈ signs, (Builtin.Str.occurrences (dbl sg) (Str.ofString "\u000d") 0 (dbl sg).length 1).isEmpty = false → sg = Str.ofString "\u000d" ∧ dbl sg = Str.ofString "\u000d\u000d" ∧ dbl (markF sg) = Str.ofString "&#xD;&#xD;" := by decide +kernel
theorem sgn_no : ∀ sg ∈ signs, (Builtin.Str.occurrences (dbl sg) (Str.ofString "&") 0 (dbl sg).length 1).isEmpty = true → (Builtin.Str.occurrences (dbl sg) (Str.ofString "<") 0 (dbl sg).length 1).isEmpty = true → (Builtin.Str.occurrences (dbl sg) (Str.ofString "\"") 0 (dbl sg).length 1).isEmpty = true → (Builtin.Str.occurrences (dbl sg) (Str.ofString "\t") 0 (dbl sg).length 1).isEmpty = true → (Builtin.Str.occurrences (dbl sg) (Str.ofString "\n") 0 (dbl sg).length 1).isEmpty = true → (Builtin.Str.occurrences (dbl sg) (Str.ofString "\u000d") 0 (dbl sg).length 1).isEmpty = true → dbl (markF sg) = dbl sg := by decide +kernel
theorem Mine.row_M67_67_esc_0 : True := by
  k_with "@67_esc_0@execs cons" => (refine wpAny_execs_cons ?_)
  k_with "@67_esc_0@ite" => ((first | rw [if_pos (by decide +kernel)] | rw [if_neg (by decide +kernel)]))
  k_with "@67_esc_0@call builtin:str.replace" => ((refine SC.replaceW (Nat.succ_ne_zero _) (Nat.succ_ne_zero _) (Nat.ne_of_lt (Nat.lt_succ_self _)) (by decide +kernel) (by decide +kernel) (by decide +kernel) ?_; intro t' k'))
  trivial

theorem Mine.use_M67_67_esc_0 : True := by
  w_top off
  run_tac Mine.use ["linesP", "lines", "clines", "clines2", "lines3", "lines4", "lines5", "linesZZ", "67_esc_0"]
  trivial

theorem esc_c {w : World} {A₀ : Around} {base h₀ : Heap} {outer : List Env} {env : Env} {L : Addr} {m : Str → Option Value} {s : Shared} {lo me} {mg mb} {R : Result → Shared → Prop} {d u : Nat} {gd : Option (List Code)} {rest : List (Addr × Obj)} {sg : Str} {tt : Tok}
 (B : Below A₀ base outer h₀) (F : Fr h₀ L s.heap m) (X : (Mine.hd.heap_39 w.params).In h₀) (N : News h₀ L s.heap rest) (T0 : Top topProg lo me mg mb h₀) (hf : env.frame = some L) (hke : env.scope.kind = .function) (hd : d < 700) (hu : u < 700)
 (hsg : sg ∈ signs)
 (h : ∀ h' tk tk', Fr h₀ L h' m → News h₀ L h' rest → R (.ok (.ret (.str (dbl (markF sg)) tk))) (St s h' s.gens tk'))
 :
 codeAny (model Challenge.rw_if0017_01.row.prog w) (Around.mk none d (some (env :: outer)) gd u) (.call (.ref 279) ⟨[.str (dbl sg) tt], []⟩) R s := by
  refine @Mine.sqz _ ?zmain ?zfin
  case zmain =>
    revert X; k_fill; intro X
    generalize hx : dbl sg = x
    k_data
    (try k_gentoks)
    k_steps
    all_goals first
      | (rw [sgn_no sg hsg (by rw [hx]; assumption) (by rw [hx]; assumption) (by rw [hx]; assumption) (by rw [hx]; assumption) (by rw [hx]; assumption) (by rw [hx]; assumption), hx] at h; exact h _ _ _ (by assumption) (by assumption))
      | (
        obtain ⟨e1, e2, e3⟩ := sgn0 sg hsg (by rw [hx]; assumption)
        obtain rfl : x = Str.ofString "&&" := hx.symm.trans e2
        rw [e3] at h
        clear hx e1 e2 e3 hsg
        k_steps
        first | exact h _ _ _ (by assumption) (by assumption) | (rw [show Txt.replace (Str.ofString "&&") (Str.ofString "&") (Str.ofString "&amp;") = Str.ofString "&amp;&amp;" by decide +kernel]; exact h _ _ _ (by assumption) (by assumption)))
      | (
        obtain ⟨e1, e2, e3⟩ := sgn1 sg hsg (by rw [hx]; assumption)
        obtain rfl : x = Str.ofString "<<" := hx.symm.trans e2
        rw [e3] at h
        clear hx e1 e2 e3 hsg
        k_steps
        first | exact h _ _ _ (by assumption) (by assumption) | (rw [show Txt.replace (Str.ofString "<<") (Str.ofString "<") (Str.ofString "&lt;") = Str.ofString "&lt;&lt;" by decide +kernel]; exact h _ _ _ (by assumption) (by assumption)))
      | (
        obtain ⟨e1, e2, e3⟩ := sgn2 sg hsg (by rw [hx]; assumption)
        obtain rfl : x = Str.ofString "\"\"" := hx.symm.trans e2
        rw [e3] at h
        clear hx e1 e2 e3 hsg
        k_steps
        first | exact h _ _ _ (by assumption) (by assumption) | (rw [show Txt.replace (Str.ofString "\"\"") (Str.ofString "\"") (Str.ofString "&quot;") = Str.ofString "&quot;&quot;" by decide +kernel]; exact h _ _ _ (by assumption) (by assumption)))
      | (
        obtain ⟨e1, e2, e3⟩ := sgn3 sg hsg (by rw [hx]; assumption)
        obtain rfl : x = Str.ofString "\t\t" := hx.symm.trans e2
        rw [e3] at h
        clear hx e1 e2 e3 hsg
        k_steps
        first | exact h _ _ _ (by assumption) (by assumption) | (rw [show Txt.replace (Str.ofString "\t\t") (Str.ofString "\t") (Str.ofString "&#x9;") = Str.ofString "&#x9;&#x9;" by decide +kernel]; exact h _ _ _ (by assumption) (by assumption)))
      | (
        obtain ⟨e1, e2, e3⟩ := sgn4 sg hsg (by rw [hx]; assumption)
        obtain rfl : x = Str.ofString "\n\n" := hx.symm.trans e2
        rw [e3] at h
        clear hx e1 e2 e3 hsg
        k_steps
        first | exact h _ _ _ (by assumption) (by assumption) | (rw [show Txt.replace (Str.ofString "\n\n") (Str.ofString "\n") (Str.ofString "&#xA;") = Str.ofString "&#xA;&#xA;" by decide +kernel]; exact h _ _ _ (by assumption) (by assumption)))
      | (
        obtain ⟨e1, e2, e3⟩ := sgn5 sg hsg (by rw [hx]; assumption)
        obtain rfl : x = Str.ofString "\u000d\u000d" := hx.symm.trans e2
        rw [e3] at h
        clear hx e1 e2 e3 hsg
        k_steps
        first | exact h _ _ _ (by assumption) (by assumption) | (rw [show Txt.replace (Str.ofString "\u000d\u000d") (Str.ofString "\u000d") (Str.ofString "&#xD;") = Str.ofString "&#xD;&#xD;" by decide +kernel]; exact h _ _ _ (by assumption) (by assumption)))
  case zfin => run_tac Mine.sq
end
end Mine

theorem Mine.row_lines11 : True := by
  k_with "@lines11@call ref" => ((k_here; (with_reducible show wpAny _ _ (call (Value.ref 201) _) _ _ _); k_dflt (refine' wpAny_call (Mine.qname_c ?cB ?cF ?cX ?cN ?cT ?cf ?ck ?cd ?cu ?c1 ?c2 ?c3 ?c4 ?c5 ?c6 ?c7 ?c8 ?c9 ?c10 ?c11 ?c12 ?_); (case cB => k_asm); (case cF => k_asm); (case cX => k_asm); (case cN => k_asm); (case cT => k_asm); (case cf => exact rfl); (case ck => exact rfl); (case cd => ((try dsimp only [Around.deeper, Around.in1]); first | exact Nat.lt_of_lt_of_le (by assumption) (by decide) | exact Nat.lt_of_lt_of_le (Nat.succ_lt_succ (by assumption)) (by decide) | exact Nat.lt_of_lt_of_le (Nat.succ_lt_succ (Nat.succ_lt_succ (by assumption))) (by decide) | omega)); (case cu => ((try dsimp only [Around.deeper, Around.in1]); first | exact Nat.lt_of_lt_of_le (by assumption) (by decide) | exact Nat.lt_of_lt_of_le (Nat.succ_lt_succ (by assumption)) (by decide) | exact Nat.lt_of_lt_of_le (Nat.succ_lt_succ (Nat.succ_lt_succ (by assumption))) (by decide) | omega)); (case c1 => run_tac Mine.memT); (case c2 => run_tac Mine.memT); (case c3 => run_tac Mine.memT); (case c4 => run_tac Mine.memT); (case c5 => run_tac Mine.memT); (case c9 => assumption); (case c6 => first | assumption | exact Mine.StackIs.mono (by assumption) (by intro p hp; repeat' (first | exact hp | exact List.mem_append_left _ hp | refine List.Mem.tail _ ?_))); (case c7 => first | assumption | omega | (simp only [Array.size_push]; omega)); (case c8 => first | assumption | exact Mine.sub2 (by assumption) (by intro p hp; repeat' (first | exact hp | exact List.mem_append_left _ hp | refine List.Mem.tail _ ?_))); (case c10 => first | assumption | exact Mine.fn_sub (by assumption) (by intro p hp; repeat' (first | exact hp | exact List.mem_append_left _ hp | refine List.Mem.tail _ ?_))); (case c11 => first | assumption | decide +kernel); (case c12 => first | assumption | omega | decide)); intro t' h' tk' a1' a2' a3' F' N' l1; (try k_lt l1)))
  k_with "@lines11@call ref" => ((k_here; k_dflt (refine' wpAny_call (Mine.WriteSpec.use ?cS ?cB ?cF ?cX ?cN ?cT ?cf ?ck ?cd ?cu ?cC ?c1 ?c2 ?c3 ?c4 ?c5 ?c6 ?_); (case cS => assumption); (case cB => k_asm); (case cF => k_asm); (case cX => k_asm); (case cN => k_asm); (case cT => k_asm); (case cf => exact rfl); (case ck => exact rfl); (case cd => ((try dsimp only [Around.deeper, Around.in1]); first | exact Nat.lt_of_lt_of_le (by assumption) (by decide) | exact Nat.lt_of_lt_of_le (Nat.succ_lt_succ (by assumption)) (by decide) | exact Nat.lt_of_lt_of_le (Nat.succ_lt_succ (Nat.succ_lt_succ (by assumption))) (by decide) | omega)); (case cu => ((try dsimp only [Around.deeper, Around.in1]); first | exact Nat.lt_of_lt_of_le (by assumption) (by decide) | exact Nat.lt_of_lt_of_le (Nat.succ_lt_succ (by assumption)) (by decide) | exact Nat.lt_of_lt_of_le (Nat.succ_lt_succ (Nat.succ_lt_succ (by assumption))) (by decide) | omega)); (case cC => first | assumption | exact Mine.sub2 (by assumption) (by intro p hp; repeat' (first | exact hp | exact List.mem_append_left _ hp | refine List.Mem.tail _ ?_))); (case c1 => k_updF); (case c2 => intro o'; k_updF); (case c3 => run_tac Mine.memT); (case c4 => first | assumption | omega | (simp only [Array.size_push]; omega)); (case c5 => first | assumption | omega | (simp only [Array.size_push]; omega)); (case c6 => first | decide | (simp only [Str.length_append, Mine.pl0, Mine.pl1, Mine.pl2, Mine.pl3, Mine.pl4, Mine.pl5, Mine.pl6]; omega))); intro t' h' tk' b' g' a1' a2' F' N' l1 bg' bl' gl'; (try dsimp only at N'); (try k_lt l1)))
  k_with "@lines11@call builtin:list.pop" => ((k_here; k_dflt ((try dsimp only); refine' Mine.list_pop_U ?F ?N ?U ?z ?_; (case F => k_asm); (case N => k_asm); (case U => k_updF); (case z => omega)); intro h' F' N'; (try dsimp only at N')))
  trivial
theorem Mine.use_M66 : True := by
  w_top off
  run_tac Mine.use ["linesP", "lines", "clines", "clines2", "lines3", "lines4", "lines5", "lines6", "lines7", "lines8", "lines9", "lines10", "lines11", "linesZZ"]
  trivial
namespace Mine
theorem truthy_pos {prog : Program} {w : World} {A : Around} {E : Value → Shared → Prop} {s : Shared} {ig : Int} {t : Tok} {Q : Bool → Shared → Prop} (h : ig ≠ 0) (q : Q true s) : wpAny (model prog w) A (truthy (.int ig t)) Q E s :=
  PyProof.Rows.truthy_int ((bne_iff_ne.mpr h).symm ▸ q)
theorem Mine.row_M66_66_end_0 : True := by
  k_with "@66_end_0@truthy int" => ((with_reducible refine Mine.truthy_pos (by assumption) ?_))
  trivial

theorem Mine.use_M66_66_end_0 : True := by
  w_top off
  run_tac Mine.use ["linesP", "lines", "clines", "clines2", "lines3", "lines4", "lines5", "lines6", "lines7", "lines8", "lines9", "lines10", "lines11", "linesZZ", "66_end_0"]
  trivial

theorem endi_c {w : World} {A₀ : Around} {base h₀ : Heap} {outer : List Env} {env : Env} {L : Addr} {m : Str → Option Value} {s : Shared} {lo me} {mg mb} {R : Result → Shared → Prop} {d u : Nat} {gd : Option (List Code)}
 {x dx wf dl es ds ns pm pr itf : Addr} {rs rd : Bool} {ig : Int} {ti tt : Tok} {wt : WT} {tag : Str} {rest : List (Addr × Obj)}
 (B : Below A₀ base outer h₀) (F : Fr h₀ L s.heap m) (X : (Mine.hd.heap_39 w.params).In h₀) (N : News h₀ L s.heap ((x, instObj 261 dx) :: (dx, wrD w wt wf dl es ds ns pm pr itf rs rd ig ti) :: rest)) (T0 : Top topProg lo me mg mb h₀) (hf : env.frame = some L) (hke : env.scope.kind = .function) (hd : d < 400) (hu : u < 400)
 (hda : dx < x) (hr : ∀ p ∈ rest, p.1 ≠ dx) (hig : 0 < ig) (hig2 : ig < 100)
 (h : ∀ h' tk' ti', Fr h₀ L h' m → News h₀ L h' ((x, instObj 261 dx) :: (dx, wrD w wt wf dl es ds ns pm pr itf rs rd (ig - 1) ti') :: rest) → R (.ok (.ret .none)) (St s h' s.gens tk'))
 :
 codeAny (model Challenge.rw_if0017_01.row.prog w) (Around.mk none d (some (env :: outer)) gd u) (.call (.ref 244) ⟨[.ref x, .str tag tt], []⟩) R s := by
  refine @Mine.sqz _ ?zmain ?zfin
  case zmain =>
    replace hda := ltN hda
    have hne : ig ≠ 0 := by omega
    revert X; k_fill; intro X
    k_data
    k_steps
    all_goals first | exact h _ _ _ (by assumption) (by assumption) | (exfalso; omega)
  case zfin => run_tac Mine.sq
theorem end_c {w : World} {A₀ : Around} {base h₀ : Heap} {outer : List Env} {env : Env} {L : Addr} {m : Str → Option Value} {s : Shared} {lo me} {mg mb} {R : Result → Shared → Prop} {d u : Nat} {gd : Option (List Code)}
 {x dx wf dl es ds ns pm pr itf l4 tp : Addr} {rs rd bf : Bool} {ti tt tp1 tp2 tis : Tok} {nd n4 nn2 np na ndl nh : Nat} {wt : WT} {tag : Str} {E T C : List (Addr × Obj)} {dsi nsi psi items hitems : Array Value} {a dxS hdl : Addr} {v1 v2 ivs : Value}
 (B : Below A₀ base outer h₀) (F : Fr h₀ L s.heap m) (X : (Mine.hd.heap_39 w.params).In h₀) (N : News h₀ L s.heap ((x, instObj 261 dx) :: (dx, wrD w wt wf dl es ds ns pm pr itf rs rd 0 ti) :: (pr, W.listOf (psi.push (.bool bf)) np) :: (ns, W.listOf (nsi.push v1) nn2) :: (ds, W.listOf (dsi.push v2) nd) :: (a, accO dxS items na) :: (hdl, W.listOf hitems nh) :: (E ++ T))) (T0 : Top topProg lo me mg mb h₀) (hf : env.frame = some L) (hke : env.scope.kind = .function) (hd : d < 350) (hu : u < 300)
 (ho : @LT.lt Nat _ dx x ∧ @LT.lt Nat _ x ds ∧ @LT.lt Nat _ ds ns ∧ @LT.lt Nat _ ns pr ∧ @LT.lt Nat _ hdl dx ∧ @LT.lt Nat _ a hdl)
 (e1 : ∀ p ∈ E, p.1 ≠ dx) (e2 : ∀ p ∈ E, p.1 ≠ pr) (e3 : ∀ p ∈ E, p.1 ≠ ns) (e4 : ∀ p ∈ E, p.1 ≠ a) (e5 : ∀ p ∈ E, p.1 ≠ hdl) (e6 : ∀ p ∈ E, p.1 ≠ ds)
 (hT : Tabs T) (hsx : (dxS, iniD w tis ivs) ∈ E)
 (hdl0 : (dl, W.listOf #[] ndl) ∈ E) (h4 : (l4, W.listOf #[.ref tp] n4) ∈ E) (htp : (tp, xmlTup tp1 tp2) ∈ E) (hst : StackIs E (dsi.push v2) l4) (hz : dsi.size ≤ 40) (hz2 : nsi.size ≤ 40) (hz3 : psi.size ≤ 40) (hC : ∀ p ∈ C, p ∈ E ++ T) (hit : IterSpec w itf l4 tp C) (hif : ∃ fo fd, (itf, fo) ∈ E ∧ fo.data = .func fd) (hws : WriteSpec w wf a dxS hdl C) (hwf : ∃ fo fd, (wf, fo) ∈ E ∧ fo.data = .func fd)
 (htg : (Txt.slice tag none (some 1) == Str.ofString "{") = false) (htl : tag.length ≤ 1) (hzi : items.size ≤ 90) (hzh : hitems.size ≤ 90)
 (h : ∀ t h' tk' b g a1 a2 rd', Fr h₀ L h' m → News h₀ L h' ((t, tupO [.str b a1, .str g a2]) :: (x, instObj 261 dx) :: (dx, wrD w wt wf dl es ds ns pm pr itf rs rd' 0 ti) :: (pr, W.listOf psi (np + 1)) :: (ns, W.listOf nsi (nn2 + 1)) :: (ds, W.listOf dsi (nd + 1)) :: (a, accO dxS (items.push (.ref t)) (na + 1)) :: (hdl, W.listOf (hitems.push .none) (nh + 1)) :: (E ++ T)) →
   (∀ p ∈ (x, instObj 261 dx) :: (dx, wrD w wt wf dl es ds ns pm pr itf rs rd 0 ti) :: (pr, W.listOf (psi.push (.bool bf)) np) :: (ns, W.listOf (nsi.push v1) nn2) :: (ds, W.listOf (dsi.push v2) nd) :: (a, accO dxS items na) :: (hdl, W.listOf hitems nh) :: (E ++ T), p.1 < t) → b ++ g = Str.empty ++ Str.ofString "</" ++ tag ++ Str.ofString ">" → b.length ≤ 100 → g.length ≤ 100 → R (.ok (.ret .none)) (St s h' s.gens tk'))
 :
 codeAny (model Challenge.rw_if0017_01.row.prog w) (Around.mk none d (some (env :: outer)) gd u) (.call (.ref 244) ⟨[.ref x, .str tag tt], []⟩) R s := by
  refine @Mine.sqz _ ?zmain ?zfin
  case zmain =>
    obtain ⟨o1, o2, o3, o4, o5, o6⟩ := ho
    revert X; k_fill; intro X
    k_data
    k_steps
    rename_i t1 hh4 tkp bb gg A1 A2 bg bl gl lz hh3 tk2 hh2 F2 N2 tk1 hh1 F1 N1 tk0 hh0 F0 N0 kF kN Tc kX
    exact h t1 _ _ bb gg A1 A2 _ kF (news_sub kN fun p hp => (List.mem_cons.mp hp).elim (fun e => e ▸ .head _) fun e => .tail _ (.tail _ e)) (allLt_mem lz.2) bg bl gl
  case zfin => run_tac Mine.sq
end Mine

theorem Mine.row_lines12 : True := by
  k_with "@lines12@setAttr ref" => ((k_here; k_dflt (refine' Mine.acc_set ?k1 ?k2 ?k3 ?k4 ?k5 ?k6 ?k7 ?k8 ?k9 ?k10 ?k11 ?k12 ?k13 ?_; (case k1 => k_asm); (case k2 => k_asm); (case k3 => k_asm); (case k4 => (refine' Mine.InstAt.of_newsA ?iN ?ih1 ?ih2 ?ih3; (case iN => k_asm); (case ih1 => run_tac Mine.memT); (case ih2 => run_tac Mine.memT); (case ih3 => exact rfl))); (case k5 => exact rfl); (case k6 => k_is); (case k7 => exact Mine.acc_mro _); (case k8 => k_is); (case k9 => k_is); (case k10 => k_get); (case k11 => k_put); (case k12 => k_upd); (case k13 => exact Nat.le_of_ble_eq_true rfl); k_whole; intro h' F' N'; (try k_sweep); (try dsimp only))))
  trivial
theorem Mine.use_M35 : True := by
  w_top off
  run_tac Mine.use ["linesP", "lines", "clines", "lines12", "linesZZ"]
  trivial
namespace Mine
theorem reset_c {w : World} {A₀ : Around} {base h₀ : Heap} {outer : List Env} {env : Env} {L : Addr} {m : Str → Option Value} {s : Shared} {lo me} {mg mb} {R : Result → Shared → Prop} {d u : Nat} {gd : Option (List Code)}
 {a dx : Addr} {items : Array Value} {n : Nat} {ti : Tok} {iv : Value} {rest : List (Addr × Obj)} {b : Addr} {its : Array Value} {nb : Nat}
 (B : Below A₀ base outer h₀) (F : Fr h₀ L s.heap m) (X : (Mine.hd.heap_39 w.params).In h₀) (N : News h₀ L s.heap ((a, accO dx items n) :: (dx, iniD w ti iv) :: rest)) (T : Top topProg lo me mg mb h₀) (hf : env.frame = some L) (hke : env.scope.kind = .function) (hd : d < 800) (hu : u < 800)
 (hb : (b, listOf its nb) ∈ rest) (hda : dx < a) (ha : ∀ p ∈ rest, p.1 ≠ a) (hr : ∀ p ∈ rest, p.1 ≠ dx) (hz : items.size ≤ 100) (hz2 : its.size ≤ 100)
 (h : ∀ h' tk' n1 t0 t1, Fr h₀ L h' m → News h₀ L h' ((a, accO dx its n1) :: (dx, iniD w t0 (.int 0 t1)) :: rest) → R (.ok (.ret .none)) (St s h' s.gens tk')) :
 codeAny (model Challenge.rw_if0017_01.row.prog w) (Around.mk none d (some (env :: outer)) gd u) (.call (.ref 127) ⟨[.ref a, .ref b], []⟩) R s := by
  refine @Mine.sqz _ ?zmain ?zfin
  case zmain =>
    replace hda := ltN hda
    have he : items.extract 0 (sliceBounds none none none items.size).1.toNat ++ its ++ items.extract (max (sliceBounds none none none items.size).1 (sliceBounds none none none items.size).2.1).toNat items.size = its := by
      simp [sliceBounds]
    have hab : a ≠ b := fun e => ha _ hb e.symm
    revert X; k_fill; intro X
    k_data
    k_steps
    exact h _ _ _ _ _ (by assumption) (by assumption)
  case zfin => run_tac Mine.sq
end Mine

theorem Mine.use_M12 : True := by
  w_top off
  run_tac Mine.use ["linesP", "lines", "lines12", "linesZZ"]
  trivial
namespace Mine
theorem init_c {w : World} {A₀ : Around} {base h₀ : Heap} {outer : List Env} {env : Env} {L : Addr} {m : Str → Option Value} {s : Shared} {lo me} {mg mb} {R : Result → Shared → Prop} {d u : Nat} {gd : Option (List Code)}
 {a dx : Addr} {rest : List (Addr × Obj)} {v : Value}
 (B : Below A₀ base outer h₀) (F : Fr h₀ L s.heap m) (X : (Mine.hd.heap_39 w.params).In h₀) (N : News h₀ L s.heap ((a, accO dx #[] 0) :: (dx, W.dictOf [] 0) :: rest)) (T : Top topProg lo me mg mb h₀) (hf : env.frame = some L) (hke : env.scope.kind = .function) (hd : d < 900) (hu : u < 900)
 (hda : dx < a) (hr : ∀ p ∈ rest, p.1 < dx)
 (h : ∀ h' tk tk' n, Fr h₀ L h' m → News h₀ L h' ((a, accO dx #[] n) :: (dx, iniD w tk v) :: rest) → R (.ok (.ret .none)) (St s h' s.gens tk')) :
 codeAny (model Challenge.rw_if0017_01.row.prog w) (Around.mk none d (some (env :: outer)) gd u) (.call (.ref 82) ⟨[.ref a, v], []⟩) R s := by
  refine @Mine.sqz _ ?zmain ?zfin
  case zmain =>
    replace hda := ltN hda
    have hra : AllLt a rest := allLt_of fun p hp => Nat.lt_trans (hr p hp) hda
    replace hr := allLt_of hr
    revert X; k_fill; intro X
    k_data
    k_steps
    exact h _ _ _ _ (by assumption) (News.tail' (News.tail' (by assumption)))
  case zfin => run_tac Mine.sq
end Mine

theorem Mine.use_M38 : True := by
  w_top off
  run_tac Mine.use ["linesP", "lines", "clines", "linesZZ"]
  trivial
namespace Mine
theorem bl3_c {w : World} {A₀ : Around} {base h₀ : Heap} {outer : List Env} {env : Env} {L : Addr} {m : Str → Option Value} {s : Shared} {lo me} {mg mb} {R : Result → Shared → Prop} {d u : Nat} {gd : Option (List Code)}
 {a : Addr} {items : Array Value} {n : Nat} {news : List (Addr × Obj)} {x : Int} {xt t0 ht : Tok} {ks : List Int}  {lo0 hi0 : Nat}
 (B : Below A₀ base outer h₀) (F : Fr h₀ L s.heap m) (X : (Mine.hd.heap_39 w.params).In h₀) (N : News h₀ L s.heap news) (T : Top topProg lo me mg mb h₀) (hf : env.frame = some L) (hke : env.scope.kind = .function) (hd : d < 700) (hu : u < 700)
 (ha : (a, W.listOf items n) ∈ news) (hks : IntsIn items ks)  (hz : ks.length ≤ 100) (hl0 : lo0 ≤ ks.length) (hh0 : hi0 ≤ ks.length)
 (h : ∀ h' tk tk', Fr h₀ L h' m → News h₀ L h' news → R (.ok (.ret (.int (bisL (fun i => (ks.getD i 0)) x (hi0 - lo0) lo0 hi0 : Nat) tk))) (St s h' s.gens tk')) :
 codeAny (model Challenge.rw_if0017_01.row.prog w) (Around.mk none d (some (env :: outer)) gd u) (.call (.ref 65) ⟨[.ref a, .int x xt, .int (lo0 : Nat) t0, .int (hi0 : Nat) ht], []⟩) R s := by
  refine @Mine.sqz _ ?zmain ?zfin
  case zmain =>
    have hsz : items.size ≤ 100 := hks.1 ▸ hz
    have hlo0 : ¬ ((lo0 : Nat) : Int) < 0 := by omega
    revert X; k_fill; intro X
    k_data
    k_steps
    rename_i g1 L1 h1 FG F2 N2 B1 X1 T1 t9
    refine while_frame (BisI (fun k lo hi => bisL (fun i => (ks.getD i 0)) x k lo hi) (bisL (fun i => (ks.getD i 0)) x (hi0 - lo0) lo0 hi0) ks.length a x xt .none) F2 N2 (n₀ := hi0 - lo0) ⟨hi0 - lo0, lo0, hi0, _, _, rfl, Nat.le_refl _, hh0, hl0, rfl, rfl, rfl, rfl, rfl, rfl⟩ ?_
    rintro n' m' h' tk' E' ⟨k, lo', hi', t1, t2, rfl, hk, hhi, hlo, hg, m1, m2, m3, m4, m5⟩ F3 N3
    rw [BisI.map m1 m2 m3 m4 m5] at F3
    dsimp only [St]
    by_cases hlt : (lo' : Int) < (hi' : Int)
    · have hltn : lo' < hi' := Int.ofNat_lt.mp hlt
      have hmid : (lo' + hi') / 2 < ks.length := bs_mid hltn hhi
      obtain ⟨tm, hm⟩ := hks.at hmid
    
      obtain ⟨k', rfl⟩ := bs_k hltn hk
      have hg2 : (if (ks.getD ((lo' + hi') / 2) 0) < x then bisL (fun i => (ks.getD i 0)) x k' ((lo' + hi') / 2 + 1) hi' else bisL (fun i => (ks.getD i 0)) x k' lo' ((lo' + hi') / 2)) = bisL (fun i => (ks.getD i 0)) x (hi0 - lo0) lo0 hi0 := by
        rw [← hg]; exact (if_pos hltn).symm
      k_steps
      · rename_i ax hx FX NX
        rw [if_pos ax] at hg2
        exact ⟨_, _, _, hi' - ((lo' + hi') / 2 + 1), rfl, bs_u1 hltn, FX, NX, k', (lo' + hi') / 2 + 1, hi', _, _, rfl, bs_u2 hltn hk, hhi, hmid, hg2, congrArg (fun z => some (Value.int z _)) (by rw [mid_fdiv]; rfl), rfl, rfl, rfl, rfl⟩
      · rename_i ax hx FX NX
        rw [if_neg ax] at hg2
        exact ⟨_, _, _, (lo' + hi') / 2 - lo', rfl, bs_d1 hltn, FX, NX, k', lo', (lo' + hi') / 2, _, _, rfl, bs_d2 hltn hk, bs_d3 hltn hhi, hlo, hg2, rfl, congrArg (fun z => some (Value.int z _)) (by rw [mid_fdiv]), rfl, rfl, rfl⟩
    · k_steps
      rename_i kF kN Tc kX
      have e : bisL (fun i => (ks.getD i 0)) x k lo' hi' = lo' := by
        cases k with
        | zero => rfl
        | succ k => exact if_neg fun c => hlt (Int.ofNat_lt.mpr c)
      have e2 := hg.symm.trans e
      rw [e2] at h
      exact h _ _ _ kF kN
  case zfin => run_tac Mine.sq
end Mine

theorem Mine.use_M39 : True := by
  w_top off
  run_tac Mine.use ["linesP", "lines", "clines", "linesZZ"]
  trivial
namespace Mine
theorem br_c {w : World} {A₀ : Around} {base h₀ : Heap} {outer : List Env} {env : Env} {L : Addr} {m : Str → Option Value} {s : Shared} {lo me} {mg mb} {R : Result → Shared → Prop} {d u : Nat} {gd : Option (List Code)}
 {a kf : Addr} {items : Array Value} {n : Nat} {news : List (Addr × Obj)} {x : Int} {xt t0 ht : Tok} {ks : List Nat} {val : Nat → Int} {dom : Nat} {lo0 hi0 : Nat}
 (B : Below A₀ base outer h₀) (F : Fr h₀ L s.heap m) (X : (Mine.hd.heap_39 w.params).In h₀) (N : News h₀ L s.heap news) (T : Top topProg lo me mg mb h₀) (hf : env.frame = some L) (hke : env.scope.kind = .function) (hd : d < 700) (hu : u < 700)
 (ha : (a, W.listOf items n) ∈ news) (hks : NatsIn items ks) (hdom : ∀ k ∈ ks, k < dom) (hfn : ∃ fo fd, (kf, fo) ∈ news ∧ fo.data = .func fd) (hkey : KeySpec w kf news val dom) (hz : ks.length ≤ 100) (hl0 : lo0 ≤ ks.length) (hh0 : hi0 ≤ ks.length)
 (h : ∀ h' tk tk', Fr h₀ L h' m → News h₀ L h' news → R (.ok (.ret (.int (bisR (fun i => val (ks.getD i 0)) x (hi0 - lo0) lo0 hi0 : Nat) tk))) (St s h' s.gens tk')) :
 codeAny (model Challenge.rw_if0017_01.row.prog w) (Around.mk none d (some (env :: outer)) gd u) (.call (.ref 47) ⟨[.ref a, .int x xt, .int (lo0 : Nat) t0, .int (hi0 : Nat) ht], [(Str.ofString "key", .ref kf)]⟩) R s := by
  refine @Mine.sqz _ ?zmain ?zfin
  case zmain =>
    have hsz : items.size ≤ 100 := hks.1 ▸ hz
    have hlo0 : ¬ ((lo0 : Nat) : Int) < 0 := by omega
    revert X; k_fill; intro X
    k_data
    k_steps
    rename_i g1 L1 h1 FG F2 N2 B1 X1 T1 t9
    refine while_frame (BisI (fun k lo hi => bisR (fun i => val (ks.getD i 0)) x k lo hi) (bisR (fun i => val (ks.getD i 0)) x (hi0 - lo0) lo0 hi0) ks.length a x xt (.ref kf)) F2 N2 (n₀ := hi0 - lo0) ⟨hi0 - lo0, lo0, hi0, _, _, rfl, Nat.le_refl _, hh0, hl0, rfl, rfl, rfl, rfl, rfl, rfl⟩ ?_
    rintro n' m' h' tk' E' ⟨k, lo', hi', t1, t2, rfl, hk, hhi, hlo, hg, m1, m2, m3, m4, m5⟩ F3 N3
    rw [BisI.map m1 m2 m3 m4 m5] at F3
    dsimp only [St]
    by_cases hlt : (lo' : Int) < (hi' : Int)
    · have hltn : lo' < hi' := Int.ofNat_lt.mp hlt
      have hmid : (lo' + hi') / 2 < ks.length := bs_mid hltn hhi
      obtain ⟨tm, hm⟩ := hks.at hmid
      have hdm : ks.getD ((lo' + hi') / 2) 0 < dom := by
        rw [List.getD_eq_getElem?_getD, List.getElem?_eq_getElem hmid]
        exact hdom _ (List.getElem_mem hmid)
      obtain ⟨k', rfl⟩ := bs_k hltn hk
      have hg2 : (if x < val (ks.getD ((lo' + hi') / 2) 0) then bisR (fun i => val (ks.getD i 0)) x k' lo' ((lo' + hi') / 2) else bisR (fun i => val (ks.getD i 0)) x k' ((lo' + hi') / 2 + 1) hi') = bisR (fun i => val (ks.getD i 0)) x (hi0 - lo0) lo0 hi0 := by
        rw [← hg]; exact (if_pos hltn).symm
      k_steps
      · rename_i ax hx FX NX
        rw [if_pos ax] at hg2
        exact ⟨_, _, _, (lo' + hi') / 2 - lo', rfl, bs_d1 hltn, FX, NX, k', lo', (lo' + hi') / 2, _, _, rfl, bs_d2 hltn hk, bs_d3 hltn hhi, hlo, hg2, rfl, congrArg (fun z => some (Value.int z _)) (by rw [mid_fdiv]), rfl, rfl, rfl⟩
      · rename_i ax hx FX NX
        rw [if_neg ax] at hg2
        exact ⟨_, _, _, hi' - ((lo' + hi') / 2 + 1), rfl, bs_u1 hltn, FX, NX, k', (lo' + hi') / 2 + 1, hi', _, _, rfl, bs_u2 hltn hk, hhi, hmid, hg2, congrArg (fun z => some (Value.int z _)) (by rw [mid_fdiv]; rfl), rfl, rfl, rfl, rfl⟩
    · k_steps
      rename_i kF kN Tc kX
      have e : bisR (fun i => val (ks.getD i 0)) x k lo' hi' = lo' := by
        cases k with
        | zero => rfl
        | succ k => exact if_neg fun c => hlt (Int.ofNat_lt.mpr c)
      have e2 := hg.symm.trans e
      rw [e2] at h
      exact h _ _ _ kF kN
  case zfin => run_tac Mine.sq
end Mine

theorem Mine.use_M20 : True := by
  w_top off
  run_tac Mine.use ["linesP", "lines", "linesZZ"]
  trivial
namespace Mine
theorem told_c {w : World} {A₀ : Around} {base h₀ : Heap} {outer : List Env} {env : Env} {L : Addr} {m : Str → Option Value} {s : Shared} {lo me} {mg mb} {R : Result → Shared → Prop} {d u : Nat} {gd : Option (List Code)}
 {p : Addr} {items : Array Value} {n : Nat} {rest : List (Addr × Obj)} {ps : List (Bool × Str)}
 (B : Below A₀ base outer h₀) (F : Fr h₀ L s.heap m) (X : (Mine.hd.heap_39 w.params).In h₀) (N : News h₀ L s.heap rest) (T : Top topProg lo me mg mb h₀) (hf : env.frame = some L) (hke : env.scope.kind = .function) (hd : d < 900) (hu : u < 900)
 (hp : (p, listOf items n) ∈ rest) (hz : items.size ≤ 100) (hps : PathIs rest items ps) (hsg : ∀ q ∈ ps, q.2 ∈ signs)
 (h : ∀ h' tk tk', Fr h₀ L h' m → News h₀ L h' rest → R (.ok (.ret (.str (toldF ps) tk))) (St s h' s.gens tk')) :
 codeAny (model Challenge.rw_if0017_01.row.prog w) (Around.mk none d (some (env :: outer)) gd u) (.call (.ref 306) ⟨[.ref p], []⟩) R s := by
  refine @Mine.sqz _ ?zmain ?zfin
  case zmain =>
    revert X; k_fill; intro X
    k_data
    k_steps
    rename_i g1 L1 hA FG1 B1 X1 T1 hx o1 l0 lo1 hd1 fp1 ap1 hy hz1 hw F1 N1
    obtain ⟨kvs, hd2, mark⟩ := told_mark hd1
    clear hd1
    clear fp1
    generalize hA.objs.size = D at *
    refine for_list (vs := items) (ToldI D o1 rest s.gens ps) rfl F1 N1 ?_ ?_ ?_ ?_
    · rintro i m news g h ⟨rfl, _⟩ _ N
      exact N.isList (.tail _ hp)
    · exact ⟨rfl, rfl, rfl, ⟨_, rfl⟩, ⟨_, rfl⟩⟩
    · rintro i v m news g h tk it E' hv ⟨rfl, rfl, hm1, ⟨tx, hm2⟩, ⟨th, hm3⟩⟩ F3 N3 di
      have hi : i < ps.length := by
        rw [← hps.1]; exact (Array.getElem?_eq_some_iff.mp hv).1
      obtain ⟨⟨b, sg⟩, hq⟩ : ∃ q, q = ps[i] := ⟨_, rfl⟩
      have e : ps[i]? = some (b, sg) := by rw [List.getElem?_eq_getElem hi, hq]
      obtain ⟨t, tb, ts, et, ht⟩ := hps.2 i _ e
      obtain rfl : v = .ref t := Option.some.inj (hv.symm.trans et)
      have hs1 : sg ∈ signs := hsg _ (List.mem_of_getElem? e)
      have hml := markF_short sg hs1
      have hdl := dbl_len (markF sg)
      have hT := told_len (ps.take i) (("<r>" : Str), 0) fun q hq => hsg q (List.mem_of_mem_take hq)
      have htk : ps.take (i + 1) = ps.take i ++ [(b, sg)] := by rw [List.take_add_one, e]; rfl
      have hfold : (ps.take (i + 1)).foldl toldStep (("<r>" : Str), 0) = toldStep ((ps.take i).foldl toldStep (("<r>" : Str), 0)) (b, sg) := by rw [htk, List.foldl_append]; rfl
      have hll : (ps.take i).length ≤ 100 := by rw [List.length_take]; have := hps.1; omega
      rw [sl5] at hT
      generalize hst : (ps.take i).foldl toldStep (("<r>" : Str), 0) = st at *
      obtain ⟨Y, H⟩ := st
      dsimp only at hm2 hm3 hT
      have em : m = fun y => if y = Str.ofString "text" then some (Value.str Y tx) else if y = Str.ofString "height" then some (Value.int H th) else if y = Str.ofString "marks" then some (Value.ref D) else m y := map3 (by with_reducible assumption) (by with_reducible assumption) (by with_reducible assumption)
      rw [em] at F3
      refine wpAny_letOwnedTupleGo_listiter ⟨_, (N3 _ (.head _)).1, rfl, rfl⟩ ?_
      dsimp only [St]
      cases b
      · change (t, tupO [.str (Str.ofString "") tb, .str sg ts]) ∈ rest at ht
        k_steps
        all_goals (refine' ⟨_, _, _, _, _, rfl, ?q1, ?q2, di, rfl, rfl, ?q3, ⟨_, ?q4⟩, ⟨_, ?q5⟩⟩; (case q1 => assumption); (case q2 => assumption); (case q3 => rfl); (case q4 => rw [hfold]; first | (rw [tsDU (by omega)]; rfl) | (rw [tsDD (by omega)]; rfl)); (case q5 => rw [hfold]; first | (rw [tsDU (by omega)]; rfl) | (rw [tsDD (by omega)]; rfl)))
      · change (t, tupO [.str (Str.ofString " ") tb, .str sg ts]) ∈ rest at ht
        k_steps
        all_goals (refine' ⟨_, _, _, _, _, rfl, ?q1, ?q2, di, rfl, rfl, ?q3, ⟨_, ?q4⟩, ⟨_, ?q5⟩⟩; (case q1 => assumption); (case q2 => assumption); (case q3 => rfl); (case q4 => rw [hfold]; first | (rw [tsUU (by omega)]; rfl) | (rw [tsUD (by omega)]; rfl)); (case q5 => rw [hfold]; first | (rw [tsUU (by omega)]; rfl) | (rw [tsUD (by omega)]; rfl)))
    · rintro m news g hh tk ⟨rfl, rfl, hm1, ⟨tx, hm2⟩, ⟨th, hm3⟩⟩ F3 N3
      have hT := told_len ps (("<r>" : Str), 0) hsg
      rw [sl5] at hT
      have hps1 := hps.1
      rw [hps1, List.take_length] at hm2 hm3
      have em : m = fun y => if y = Str.ofString "text" then some (Value.str (ps.foldl toldStep (("<r>" : Str), 0)).1 tx) else m y := map1 (by with_reducible assumption)
      rw [em] at F3
      dsimp only [St]
      k_steps
      exact h _ _ _ (by assumption) (News.tail' (by assumption))
  case zfin => run_tac Mine.sq
end Mine

theorem Mine.use_M29r : True := by
  w_top off
  run_tac Mine.use ["linesP", "linesZZ"]
  trivial
namespace Mine
noncomputable abbrev ritO (a : Int) (n i : Nat) : Obj := { cls := .type "range_iterator", dict := none, data := .fields #[rawInt (a + ((i : Nat) : Int) * 1), rawInt ((n : Int) - ((i : Nat) : Int)), rawInt 1], slots := #[] }
section
variable {prog : Program} {w : World} {A : Around} {E : Value → Shared → Prop} {s : Shared} {h₀ : Heap} {env : Env} {L : Addr} {target : Expr} {body : List Stmt} {Q : Flow → Shared → Prop}
theorem for_range {r : Addr} {a b : Int} {t u v : Tok} {n : Nat} {m₀ : Str → Option Value} {news₀ : List (Addr × Obj)} (Φ : Nat → (Str → Option Value) → List (Addr × Obj) → Array GenState → Prop)
    (hh : A.handled = none) (F : Fr h₀ L s.heap m₀) (N : News h₀ L s.heap news₀) (hr : IsRange s.heap r a b 1 t u v) (hsm : Builtin.Range.small a b 1 = true) (hn : Builtin.Range.rangeSize a b 1 = ((n : Nat) : Int)) (start : Φ 0 m₀ news₀ s.gens)
    (turn : ∀ i m news g h tk it tv E', i < n → Φ i m news g → Fr h₀ L h m → News h₀ L h ((it, ritO a n (i + 1)) :: news) → (∀ p ∈ news, p.1 ≠ it) →
      wpAny (model prog w) A (letOwnedTupleGo target (.ref it) (.int (a + (i : Int)) tv)) (fun _ s₁ => wpAny (model prog w) A (assign target env (.int (a + (i : Int)) tv)) (fun _ s₂ =>
        wpAny (model prog w) A (execs body env) (TurnEnd h₀ L s it (ritO a n (i + 1)) (Φ (i + 1)) Q) E' s₂) E' s₁) E' (St s h g tk))
    (done : ∀ m news g h tk, Φ n m news g → Fr h₀ L h m → News h₀ L h news → Q .next (St s h g tk)) :
    wpAny (model prog w) A (pyIter (.ref r)) (fun it s₂ => codeAny (model prog w) A (.forLoop target it body [] env) (fun r s' => match r with | .ok f => Q f s' | .error e => cameBackBy (model prog w) A env E e s') s₂) E s := by
  refine wpAny_pyIter_range hr hsm ?_
  rw [hn]
  have W := LCg.range_walks (prog := prog) (w := w) (I := s.heap.objs.size) hh a n
  let I : Nat → Shared → Prop := fun k s' => ∃ i m news g h tk, k = n - i ∧ i ≤ n ∧ s' = St s h g tk ∧ Φ i m news g ∧ Fr h₀ L h m ∧ News h₀ L h ((s.heap.objs.size, ritO a n i) :: news) ∧ (∀ p ∈ news, p.1 ≠ s.heap.objs.size)
  have e0 : ritO a n 0 = { cls := .type "range_iterator", data := .fields #[rawInt a, rawInt ((n : Nat) : Int), rawInt 1] } := by simp [ritO]
  refine codeAny_forLoop_any I (fun k s' hI => ?_) n ⟨0, m₀, news₀, s.gens, _, s.toks, rfl, Nat.zero_le _, rfl, start, F.push _, e0 ▸ N.push F _, N.apart⟩
  obtain ⟨i, m, news, g, h, tk, rfl, hi, rfl, φ, F', N', d⟩ := hI
  have hz := N' _ (.head _)
  by_cases hlt : i < n
  · refine W.item i (St s h g tk) _ _ hlt hz.1 fun v h' tk' hP hit' hs => ?_
    obtain ⟨tv, rfl⟩ := hP
    have hs' : ∀ b o, b ≠ s.heap.objs.size → h.get? b = some o → h'.get? b = some o := fun b o hb e => hs b o (by simpa using hb) e
    have F'' : Fr h₀ L h' m := by
      obtain ⟨o, es, ep, ho, r⟩ := F'.ns
      exact ⟨⟨o, es, ep, hs' _ _ (Ne.symm hz.2.1) ho, r⟩, fun b ob eb => hs' _ _ (fun q => by rw [← q, eb] at hz; exact absurd hz.2.2 (by simp)) (F'.keep b ob eb), F'.above⟩
    have N'' : News h₀ L h' ((s.heap.objs.size, ritO a n (i + 1)) :: news) := fun p hp => by
      rcases List.mem_cons.mp hp with rfl | hp
      · exact ⟨hit', hz.2⟩
      · exact ⟨hs' _ _ (d p hp) (N' p (.tail _ hp)).1, (N' p (.tail _ hp)).2⟩
    refine wpAny_mono (turn i m news g h' tk' _ tv _ hlt φ F'' N'' d) (fun _ s₁ h₁ => wpAny_mono h₁ (fun _ s₂ h₂ => wpAny_mono h₂ (fun f s₃ h₃ => ?_) fun _ _ x => x) fun _ _ x => x) fun _ _ x => x
    have fin : (∃ h' g' tk' m' news', s₃ = St s h' g' tk' ∧ Fr h₀ L h' m' ∧ News h₀ L h' ((s.heap.objs.size, ritO a n (i + 1)) :: news') ∧ (∀ p ∈ news', p.1 ≠ s.heap.objs.size) ∧ Φ (i + 1) m' news' g') → ∃ k, k < n - i ∧ I k s₃ := by
      rintro ⟨h'', g', tk', m', news', rfl, a1, a2, a3, a4⟩
      exact ⟨n - (i + 1), by omega, i + 1, m', news', g', h'', tk', rfl, hlt, rfl, a4, a1, a2, a3⟩
    cases f with
    | brk => exact h₃
    | ret v => exact h₃
    | next => exact fin h₃
    | cont => exact fin h₃
  · obtain rfl : i = n := Nat.le_antisymm hi (Nat.not_lt.mp hlt)
    refine W.done (St s h g tk) _ _ hz.1 fun h' tk' hs => ?_
    have hs' : ∀ b o, b ≠ s.heap.objs.size → h.get? b = some o → h'.get? b = some o := fun b o hb e => hs b o (by simpa using hb) e
    have F'' : Fr h₀ L h' m := by
      obtain ⟨o, es, ep, ho, r⟩ := F'.ns
      exact ⟨⟨o, es, ep, hs' _ _ (Ne.symm hz.2.1) ho, r⟩, fun b ob eb => hs' _ _ (fun q => by rw [← q, eb] at hz; exact absurd hz.2.2 (by simp)) (F'.keep b ob eb), F'.above⟩
    exact wpAny_pure (done m news g h' tk' φ F'' fun p hp => ⟨hs' _ _ (d p hp) (N' p (.tail _ hp)).1, (N' p (.tail _ hp)).2⟩)
end
end Mine
namespace Mine
/-- a place where the walker rests -/
noncomputable def Stop (P : Prop) : Prop := P
theorem stop_ {P : Prop} (h : Stop P) : P := h
end Mine

theorem Mine.use_M29d : True := by
  w_top off
  run_tac Mine.use ["linesP", "linesZZ"]
  trivial
namespace Mine
open PyProof.Rows.LCg PyProof.Rows.LCt in
theorem filt_rest {prog : Program} {w : World} {A : Around} {s : Shared} {h₀ : Heap} {L : Addr} {m : Str → Option Value} {env : Env} {x y z : Str} {p1 p2 p3 p4 p5 p6 : Pos} {scope : Scope} {cl : List (Str × Addr)} {S : List (Addr × Obj) → Prop} {Fin : List Value → List (Addr × Obj) → Prop} {its items : Array Value} {ks : List Nat} {news : List (Addr × Obj)} {c1 c2 hl : Addr} {o1 o2 : Obj} {n dom : Nat} {ht : Int} {th : Tok} {val : Nat → Int}
  (hk : ∀ C, (compEnvC scope cl C env).scope.kind = .function) (hx : ∀ C, (compEnvC scope cl C env).kindOf x = some .local) (hy : ∀ C, (compEnvC scope cl C env).kindOf y = some .cell) (hz : ∀ C, (compEnvC scope cl C env).kindOf z = some .cell) (bx : (x == ("__debug__" : Str)) = false) (bY : (y == ("__debug__" : Str)) = false) (bz : (z == ("__debug__" : Str)) = false)
  (hcy : cl.lookup y = some c1) (hcz : cl.lookup z = some c2) (m1 : (c1, o1) ∈ news) (d1 : o1.data = .cell (some (.ref hl))) (m2 : (c2, o2) ∈ news) (d2 : o2.data = .cell (some (.int ht th))) (hli : (hl, W.listOf items n) ∈ news) (hv : ∀ k, k < dom → ∃ t, items[k]? = some (.int (val k) t)) (hdom : dom ≤ 100)
  (hS : S news) (hks : NatsIn its ks) (hlt : ∀ k ∈ ks, k < dom) (hfin : ∀ ys : List Value, ys.length = (ks.filter (fun k => decide (val k ≤ ht))).length → Fin ys news) :
  ∀ k i (ys : List Value), i + k = ks.length → ys.length = ((ks.take i).filter (fun k => decide (val k ≤ ht))).length → CompRestT prog w A h₀ L m env (.Compare (.Subscript (.Name y p1) (.Name x p2) p3) [.LtE] [.Name z p4] p5) (.Name x p6) x scope cl s S (fun i v => its[i]? = some v) Fin k i ys news
  | 0, i, ys, e, el => CompRestT.zero (hfin ys (by rw [el, List.take_of_length_le (by omega)]))
  | k + 1, i, ys, e, el => CompRestT.succ fun v I oI C oC D m₂ h tk E' hP hC hx2 F N off ne => by
    have hi : i < ks.length := by omega
    obtain ⟨tv, e2⟩ := hks.2 i ks[i] (List.getElem?_eq_getElem hi)
    have hv1 : v = .int (ks[i] : Nat) tv := Option.some.inj (hP.symm.trans e2)
    subst hv1
    have hkd := hlt _ (List.getElem_mem hi)
    obtain ⟨tx, hxx⟩ := hv _ hkd
    have hxx : items[((ks[i] : Nat) : Int).toNat]? = some (.int (val ks[i]) tx) := by rw [Int.toNat_natCast]; exact hxx
    have tl : ∀ {q : Addr × Obj}, q ∈ news → q ∈ (I, oI) :: (C, oC) :: (D, lst ys) :: news := fun hq => .tail _ (.tail _ (.tail _ hq))
    have htk : ks.take (i + 1) = ks.take i ++ [ks[i]] := by rw [List.take_add_one, List.getElem?_eq_getElem hi]; rfl
    refine wpAny_isTrue_Compare1 (Subscript_ (lcf_cell N hcy (tl m1) d1 (LCgL.ld_own N (.tail _ (.head _)) hC hx2 (PyProof.Rows.item_list (News.isList N (tl hli)) (by omega) (by omega) hxx ?_) (hk C) (hx C) bx) (hk C) (hy C) bY))
    refine lcf_cell N hcz (tl m2) d2 ?_ (hk C) (hz C) bz
    refine PyProof.Rows.le_int ?_
    refine wpAny_truthy_bool ?_
    by_cases hc : val ks[i] ≤ ht
    · rw [decide_eq_true hc, if_pos rfl]
      refine LCgL.ld_own N (.tail _ (.head _)) hC hx2 ?_ (hk C) (hx C) bx
      exact ⟨h, tk, news, rfl, F, N, off, hS, filt_rest hk hx hy hz bx bY bz hcy hcz m1 d1 m2 d2 hli hv hdom hS hks hlt hfin k (i + 1) _ (by omega) (by rw [htk, List.filter_append, List.length_append, List.length_append, el]; simp [hc])⟩
    · rw [decide_eq_false hc, if_neg Bool.false_ne_true]
      exact ⟨h, tk, news, rfl, F, N, off, hS, filt_rest hk hx hy hz bx bY bz hcy hcz m1 d1 m2 d2 hli hv hdom hS hks hlt hfin k (i + 1) _ (by omega) (by rw [htk, List.filter_append, List.length_append, el]; simp [hc])⟩
end Mine

theorem Mine.use_M29e : True := by
  w_top off
  run_tac Mine.use ["linesP", "linesZZ"]
  trivial
namespace Mine
theorem nat_of {a : Int} (h : 0 ≤ a) : a = ((a.toNat : Nat) : Int) := (Int.toNat_of_nonneg h).symm
theorem ints_at {items : Array Value} {Hs : List Int} (h : IntsIn items Hs) : ∀ k, k < Hs.length → ∃ t, items[k]? = some (.int ((fun k => Hs.getD k 0) k) t) := fun k hk => by
  obtain ⟨t, e⟩ := h.2 k _ (List.getElem?_eq_getElem hk)
  exact ⟨t, by dsimp only; rw [e, List.getD_eq_getElem?_getD, List.getElem?_eq_getElem hk]; rfl⟩
theorem br_cI {w : World} {A₀ : Around} {base h₀ : Heap} {outer : List Env} {env : Env} {L : Addr} {m : Str → Option Value} {s : Shared} {lo me} {mg mb} {R : Result → Shared → Prop} {d u : Nat} {gd : Option (List Code)}
 {a kf : Addr} {items : Array Value} {n : Nat} {news : List (Addr × Obj)} {x loI hiI : Int} {xt t0 ht : Tok} {ks : List Nat} {val : Nat → Int} {dom : Nat} {lo0 hi0 : Nat}
 (B : Below A₀ base outer h₀) (F : Fr h₀ L s.heap m) (X : (Mine.hd.heap_39 w.params).In h₀) (N : News h₀ L s.heap news) (T : Top topProg lo me mg mb h₀) (hf : env.frame = some L) (hke : env.scope.kind = .function) (hd : d < 700) (hu : u < 700)
 (ha : (a, W.listOf items n) ∈ news) (hks : NatsIn items ks) (hdom : ∀ k ∈ ks, k < dom) (hfn : ∃ fo fd, (kf, fo) ∈ news ∧ fo.data = .func fd) (hkey : KeySpec w kf news val dom) (hz : ks.length ≤ 100) (e1 : loI = ((lo0 : Nat) : Int)) (e2 : hiI = ((hi0 : Nat) : Int)) (hl0 : lo0 ≤ ks.length) (hh0 : hi0 ≤ ks.length)
 (h : ∀ h' tk tk', Fr h₀ L h' m → News h₀ L h' news → R (.ok (.ret (.int (bisR (fun i => val (ks.getD i 0)) x (hi0 - lo0) lo0 hi0 : Nat) tk))) (St s h' s.gens tk')) :
 codeAny (model Challenge.rw_if0017_01.row.prog w) (Around.mk none d (some (env :: outer)) gd u) (.call (.ref 47) ⟨[.ref a, .int x xt, .int loI t0, .int hiI ht], [(Str.ofString "key", .ref kf)]⟩) R s := by
  subst e1 e2
  exact br_c B F X N T hf hke hd hu ha hks hdom hfn hkey hz hl0 hh0 h
theorem bl3_cI {w : World} {A₀ : Around} {base h₀ : Heap} {outer : List Env} {env : Env} {L : Addr} {m : Str → Option Value} {s : Shared} {lo me} {mg mb} {R : Result → Shared → Prop} {d u : Nat} {gd : Option (List Code)}
 {a : Addr} {items : Array Value} {n : Nat} {news : List (Addr × Obj)} {x loI hiI : Int} {xt t0 ht : Tok} {ks : List Int} {lo0 hi0 : Nat}
 (B : Below A₀ base outer h₀) (F : Fr h₀ L s.heap m) (X : (Mine.hd.heap_39 w.params).In h₀) (N : News h₀ L s.heap news) (T : Top topProg lo me mg mb h₀) (hf : env.frame = some L) (hke : env.scope.kind = .function) (hd : d < 700) (hu : u < 700)
 (ha : (a, W.listOf items n) ∈ news) (hks : IntsIn items ks) (hz : ks.length ≤ 100) (e1 : loI = ((lo0 : Nat) : Int)) (e2 : hiI = ((hi0 : Nat) : Int)) (hl0 : lo0 ≤ ks.length) (hh0 : hi0 ≤ ks.length)
 (h : ∀ h' tk tk', Fr h₀ L h' m → News h₀ L h' news → R (.ok (.ret (.int (bisL (fun i => (ks.getD i 0)) x (hi0 - lo0) lo0 hi0 : Nat) tk))) (St s h' s.gens tk')) :
 codeAny (model Challenge.rw_if0017_01.row.prog w) (Around.mk none d (some (env :: outer)) gd u) (.call (.ref 65) ⟨[.ref a, .int x xt, .int loI t0, .int hiI ht], []⟩) R s := by
  subst e1 e2
  exact bl3_c B F X N T hf hke hd hu ha hks hz hl0 hh0 h
end Mine

theorem Mine.row_linesS : True := by
  k_with "@linesS@exec For Name Call cons nil" => ((k_here; k_dflt (refine wpAny_For ?_)))
  k_with "@linesS@pyIter ref" => ((k_here; refine Mine.stop_ ?_))
  k_with "@linesS@exec For Name Name cons nil" => ((k_here; k_dflt (refine wpAny_For ?_)))
  trivial
theorem Mine.row_linesF : True := by
  k_with "@linesF@call ref" => ((k_here; (with_reducible show wpAny _ _ (call (Value.ref 47) _ _) _ _ _); k_dflt (refine' wpAny_call (Mine.br_cI ?cB ?cF ?cX ?cN ?cT ?cf ?ck ?cd ?cu ?c1 ?c2 ?c3 ?c4 ?c5 ?c6 ?e1 ?e2 ?c7 ?c8 ?_); (case cB => k_asm); (case cF => k_asm); (case cX => k_asm); (case cN => k_asm); (case cT => k_asm); (case cf => exact rfl); (case ck => exact rfl); (case cd => ((try dsimp only [Around.deeper, Around.in1]); first | exact Nat.lt_of_lt_of_le (by assumption) (by decide) | exact Nat.lt_of_lt_of_le (Nat.succ_lt_succ (by assumption)) (by decide) | exact Nat.lt_of_lt_of_le (Nat.succ_lt_succ (Nat.succ_lt_succ (by assumption))) (by decide) | omega)); (case cu => ((try dsimp only [Around.deeper, Around.in1]); first | exact Nat.lt_of_lt_of_le (by assumption) (by decide) | exact Nat.lt_of_lt_of_le (Nat.succ_lt_succ (by assumption)) (by decide) | exact Nat.lt_of_lt_of_le (Nat.succ_lt_succ (Nat.succ_lt_succ (by assumption))) (by decide) | omega)); (case c1 => run_tac Mine.memT); (case c2 => assumption); (case c3 => assumption); (case c4 => exact ⟨_, _, by run_tac Mine.memT, rfl⟩); (case c6 => omega); (case e1 => exact Mine.nat_of (by omega)); (case e2 => exact Mine.nat_of (by omega)); (case c7 => omega); (case c8 => omega); (case c5 => (refine' Mine.key_lam ?k1 ?k2 ?k3 ?k4 ?k5 ?k6 ?k7 ?k8; (case k1 => run_tac Mine.memT); (case k2 => run_tac Mine.memT); (case k3 => assumption); (case k4 => run_tac Mine.memT); (case k5 => assumption); (case k6 => (intro p hp; repeat' (first | exact List.mem_append_right _ hp | refine List.Mem.tail _ ?_))); (case k8 => assumption); (case k7 => omega)))); intro h' tk' t' F' N'))
  k_with "@linesF@call ref" => ((k_here; (with_reducible show wpAny _ _ (call (Value.ref 65) _) _ _ _); k_dflt (refine' wpAny_call (Mine.bl3_cI ?cB ?cF ?cX ?cN ?cT ?cf ?ck ?cd ?cu ?c1 ?c2 ?c6 ?e1 ?e2 ?c7 ?c8 ?_); (case cB => k_asm); (case cF => k_asm); (case cX => k_asm); (case cN => k_asm); (case cT => k_asm); (case cf => exact rfl); (case ck => exact rfl); (case cd => ((try dsimp only [Around.deeper, Around.in1]); first | exact Nat.lt_of_lt_of_le (by assumption) (by decide) | exact Nat.lt_of_lt_of_le (Nat.succ_lt_succ (by assumption)) (by decide) | exact Nat.lt_of_lt_of_le (Nat.succ_lt_succ (Nat.succ_lt_succ (by assumption))) (by decide) | omega)); (case cu => ((try dsimp only [Around.deeper, Around.in1]); first | exact Nat.lt_of_lt_of_le (by assumption) (by decide) | exact Nat.lt_of_lt_of_le (Nat.succ_lt_succ (by assumption)) (by decide) | exact Nat.lt_of_lt_of_le (Nat.succ_lt_succ (Nat.succ_lt_succ (by assumption))) (by decide) | omega)); (case c1 => run_tac Mine.memT); (case c2 => assumption); (case c6 => omega); (case e1 => exact Mine.nat_of (by omega)); (case e2 => exact Mine.nat_of (by omega)); (case c7 => omega); (case c8 => omega)); intro h' tk' t' F' N'))
  k_with "@linesF@CompSrcT" => ((k_here; k_dflt (refine' LCt.CompSrcT.ledger ?a1 ?a2 ?a3 ?a4 ?a5 ?_; (case a1 => rfl); (case a2 => k_asm); (case a3 => k_asm); (case a4 => run_tac Mine.memT); (case a5 => size_fits); intro g'; refine' Mine.filt_rest (fun _ => rfl) (fun _ => rfl) (fun _ => rfl) (fun _ => rfl) ?b1 ?b2 ?b3 ?c1 ?c2 ?m1 ?d1 ?m2 ?d2 ?li ?hv ?dom ?hS ?ks ?lt ?_ _ _ _ ?e0 ?e1; (case b1 => decide); (case b2 => decide); (case b3 => decide); (case c1 => rfl); (case c2 => rfl); (case d1 => assumption); (case m1 => run_tac Mine.memT); (case d2 => assumption); (case m2 => run_tac Mine.memT); (case li => run_tac Mine.memT); (case hv => assumption); (case dom => omega); (case ks => assumption); (case lt => assumption); (case hS => exact .inr ⟨_, by run_tac Mine.memT, rfl, _, rfl⟩); (case e0 => omega); (case e1 => rfl); intro ys' hys')))
  k_with "@linesF@call builtin:len" => ((k_here; (with_reducible show wpAny _ _ (call (Value.builtin "len") [Value.ref _]) _ _ _); k_dflt (refine' PyProof.Rows.len_list ?k1 ?k2 ?_; (case k1 => exact News.isList (by k_asm) (by run_tac Mine.memT)); (case k2 => first | omega | (simp only [Array.size_push]; omega) | (simp only [List.size_toArray]; omega)))))
  trivial
theorem Mine.use_M51 : True := by
  w_top off
  run_tac Mine.use ["linesP", "lines", "clines", "clines2", "lines3", "lines4", "lines5", "lines6", "lines8", "linesS", "linesF", "linesZZ"]
  trivial
namespace Mine
noncomputable def dueF (c low : Int) : Int := if (if c < 6 - low then c else 6 - low) > low then (if c < 6 - low then c else 6 - low) else low
noncomputable def FoundOK (Hs : List Int) (Rs : List Nat) (Ps : List Int) : Prop := ∀ i : Nat, i < 11 →
  (((bisR (fun i => Hs.getD (Rs.getD i 0) 0) (-4 + (i : Int)) ((6 - (-4 + (i : Int)).fmod 3).toNat - ((-4 + (i : Int)).fmod 3).toNat) ((-4 + (i : Int)).fmod 3).toNat (6 - (-4 + (i : Int)).fmod 3).toNat : Nat) : Int) = dueF (((Rs.filter (fun k => decide (Hs.getD k 0 ≤ -4 + (i : Int)))).length : Nat) : Int) ((-4 + (i : Int)).fmod 3)) ∧
  (((bisL (fun i => Ps.getD i 0) (-4 + (i : Int) + 1) ((6 - (-4 + (i : Int)).fmod 3).toNat - ((-4 + (i : Int)).fmod 3).toNat) ((-4 + (i : Int)).fmod 3).toNat (6 - (-4 + (i : Int)).fmod 3).toNat : Nat) : Int) = dueF (((Rs.filter (fun k => decide (Hs.getD k 0 ≤ -4 + (i : Int)))).length : Nat) : Int) ((-4 + (i : Int)).fmod 3))
noncomputable def FoundI (E T : List (Addr × Obj)) (g₀ : Array GenState) (rw pl c1 c2 : Addr) (o1 : Obj) (i : Nat) (m : Str → Option Value) (news : List (Addr × Obj)) (g : Array GenState) : Prop :=
  ∃ Ti oh vh, news = (c2, oh) :: (c1, o1) :: (E ++ Ti) ∧ oh.data = .cell vh ∧ Tabs Ti ∧ g = g₀ ∧ m (Str.ofString "row") = some (.ref rw) ∧ m (Str.ofString "plain") = some (.ref pl)
theorem found_c {w : World} {A₀ : Around} {base h₀ : Heap} {outer : List Env} {env : Env} {L : Addr} {m : Str → Option Value} {s : Shared} {lo me} {mg mb} {R : Result → Shared → Prop} {d u : Nat} {gd : Option (List Code)}
 {hl rw pl : Addr} {hls rws pls : Array Value} {n2 n3 n4 : Nat} {E T : List (Addr × Obj)} {Hs : List Int} {Rs : List Nat} {Ps : List Int}
 (B : Below A₀ base outer h₀) (F : Fr h₀ L s.heap m) (X : (Mine.hd.heap_39 w.params).In h₀) (N : News h₀ L s.heap (E ++ T)) (T0 : Top topProg lo me mg mb h₀) (hf : env.frame = some L) (hke : env.scope.kind = .function) (hd : d < 310) (hu : u < 100)
 (hE : ∀ p ∈ E, isTabE p.2 = false) (hT : Tabs T)
 (h1 : (hl, W.listOf hls n2) ∈ E) (h2 : (rw, W.listOf rws n3) ∈ E) (h3 : (pl, W.listOf pls n4) ∈ E) (i1 : IntsIn hls Hs) (i2 : NatsIn rws Rs) (i3 : IntsIn pls Ps) (z1 : Hs.length = 11) (z2 : Rs.length = 6) (z3 : Ps.length = 6) (hlt : ∀ k ∈ Rs, k < 11) (hok : FoundOK Hs Rs Ps)
 (h : ∀ h' tk' Ti, Fr h₀ L h' m → News h₀ L h' (E ++ Ti) → Tabs Ti → R (.ok (.ret (.bool true))) (St s h' s.gens tk'))
 :
 codeAny (model Challenge.rw_if0017_01.row.prog w) (Around.mk none d (some (env :: outer)) gd u) (.call (.ref 294) ⟨[.ref hl, .ref rw, .ref pl], []⟩) R s := by
  refine @Mine.sqz _ ?zmain ?zfin
  case zmain =>
    revert X; k_fill; intro X
    refine' code_defC ?k1 ?k2 ?k3 ?k4 ?k5 ?kA ?kF ?kK ?k6 ?k7 ?k8 ?k9 ?kB ?kD ?_ ?c2 ?c3 ?c4
    case kA => exact rfl
    case kF => assumption
    case kK => assumption
    case k1 => assumption
    case k2 => assumption
    case k3 => assumption
    case k4 => assumption
    case k5 => assumption
    case k6 => k_is
    case k7 => k_is
    case k8 => k_room
    case k9 => exact BindsTo.of_eq rfl
    case kB => exact rfl
    case kD => decide +kernel
    case c2 => exact rfl
    case c3 => exact rfl
    case c4 => exact rfl
    intro g' L' h' tk' cells' FG' F' N' Y' B' X' T' l1
    have l2 : AllLt (L' + 1) (E ++ T) := allLt_of fun p hp => Nat.lt_succ_of_lt (l1 p hp)
    have l3 : AllLt L' (E ++ T) := allLt_of l1
    clear l1
    k_cells Y'
    (try simp only [List.cons_append, List.nil_append] at N')
    (try dsimp only)
    k_steps
    have hEc : ∀ p ∈ E, p.1 ≠ L' + 1 + 1 := fun p hp => Nat.ne_of_lt (Nat.lt_succ_of_lt (allLt_mem l2 p (List.mem_append_left _ hp)))
    rename_i o2 o1 d2 d1 N0 hA tk1 tr ur vr hrg F1 N1 hkeep
    unfold Stop
    refine for_range (n := 11) (FoundI E T s.gens rw pl (L' + 1) (L' + 1 + 1) o1) rfl F1 N1 hrg (by decide) (by decide) ?_ ?_ ?_
    · exact ⟨T, _, _, rfl, d2, hT, rfl, rfl, rfl⟩
    · rintro i m news g h tk it tv E' hi ⟨Ti, oh, vh, rfl, dh, hTi, rfl, hm1, hm2⟩ F3 N3 di
      have em : m = fun y => if y = Str.ofString "row" then some (Value.ref rw) else if y = Str.ofString "plain" then some (Value.ref pl) else m y := map2 (by with_reducible assumption) (by with_reducible assumption)
      rw [em] at F3
      have d8 := allNe_of di
      have hhv := ints_at i1
      have hz11 : Hs.length ≤ 100 := by omega
      have hT1 := List.mem_append_left Ti h1
      have hT2 := List.mem_append_left Ti h2
      have hT3 := List.mem_append_left Ti h3
      have hlt' : ∀ k ∈ Rs, k < Hs.length := fun k hk => by rw [z1]; exact hlt k hk
      have hsz2 := i2.1
      have hlow : 0 ≤ (-4 + (i : Int)).fmod 3 ∧ (-4 + (i : Int)).fmod 3 ≤ 2 := by rw [Int.fmod_eq_emod_of_nonneg _ (by decide)]; omega
      have hfl := List.length_filter_le (fun k => decide (Hs.getD k 0 ≤ -4 + (i : Int))) Rs
      have hsz3 := i3.1
      simp only [AllNe] at d8
      dsimp only [St]
      refine wpAny_pure ?_
      have hc : ∀ ys : List Value, ys.length = (List.filter (fun k => decide (Hs.getD k 0 ≤ -4 + (i : Int))) Rs).length → ((ys.toArray.size : Nat) : Int) = (((List.filter (fun k => decide (Hs.getD k 0 ≤ -4 + (i : Int))) Rs).length : Nat) : Int) := fun ys h => by rw [List.size_toArray, h]
      k_steps
      · rename_i hbad
        exact (hbad (by rw [hc _ (by assumption)]; exact (hok i hi).1)).elim
      · rename_i hbad
        exact (hbad (by rw [hc _ (by assumption)]; exact (hok i hi).2)).elim
      · rename_i og dog tk22 hB7 gg7 ys9 hys9 D9 hB6 tk33 o19 hB5 tk11 hB4 tk00 hB3 F3' N3' f9 c9 oc9 ct9 hB2 tk92 Tn9 F92 N92 hT9 hle9 hci9 l9 hB1 tk91 t91 F91 N91 a91 hB0 tk90 t90 F90 N90 a90
        have hTi9 : ∀ p ∈ Tn9, p.1 ≠ it := tabs_apart N90 (fun p hp => .tail _ (.tail _ (.tail _ (.tail _ (.tail _ (List.mem_append_right _ hp)))))) hT9 (a := it) (.tail _ (.tail _ (.head _))) rfl
        refine TurnEnd.intro (news' := (L' + 1 + 1, og) :: (L' + 1, o1) :: (E ++ Tn9)) F90 (news_sub N90 fun p hp => .tail _ (.tail _ hp)) ?_ ⟨Tn9, og, _, rfl, dog, hT9, rfl, rfl, rfl⟩
        exact List.forall_mem_cons.mpr ⟨d8.1, List.forall_mem_cons.mpr ⟨d8.2.1, List.forall_mem_append.mpr ⟨fun p hp => di p (.tail _ (.tail _ (List.mem_append_left _ hp))), hTi9⟩⟩⟩
    · rintro m news g h9 tk ⟨Ti, oh, vh, rfl, dh, hTi, rfl, hm1, hm2⟩ F3 N3
      dsimp only [St]
      k_steps
      exact h _ _ Ti (by assumption) (News.tail' (News.tail' (by assumption))) hTi
  case zfin => run_tac Mine.sq
end Mine

theorem Mine.use_M52a : True := by
  w_top off
  run_tac Mine.use ["linesP", "linesZZ"]
  trivial
namespace Mine
section
variable {prog : Program} {w : World} {A : Around} {E : Value → Shared → Prop} {s : Shared} {h₀ h : Heap} {L D a : Addr} {m : Str → Option Value} {news : List (Addr × Obj)} {g : Obj → List (Addr × Obj)} {its items : Array Value} {n : Nat} {v : Value}
theorem list_keep (hl : h₀.IsList a items) (F : Fr h₀ L h m) : h.IsList a items := let ⟨o, e, r⟩ := hl; ⟨o, F.keep _ _ e, r⟩
theorem set_at_U {k : Int} {t : Tok} {Q : Unit → Shared → Prop} (F : Fr h₀ L s.heap m) (N : News h₀ L s.heap news) (U : UpdF D (W.listOf its n) news g) (h0 : 0 ≤ k) (hn : k < its.size) (hz : its.size ≤ 100)
    (h : ∀ h', Fr h₀ L h' m → News h₀ L h' (g (W.listOf (its.setIfInBounds k.toNat v) n)) → Q () { s with heap := h' }) : wpAny (model prog w) A (setItem (.ref D) (.int k t) v) Q E s := by
  refine @Mine.sqz _ ?zmain ?zfin
  case zmain =>
    obtain ⟨pre, post, rfl, hg, a1, b1⟩ := U.split
    have z := N (D, W.listOf its n) (List.mem_append_right _ (.head _))
    refine ki_setAt z.1 h0 (by omega) hn ?_
    have hsb := Heap.SameBut.update s.heap D (Obj.mapSeq (fun x => x.setIfInBounds k.toNat v))
    refine h _ (F.change hsb z.2.1 z.2.2) ?_
    rw [hg]
    exact ki_turn _ N a1 b1 rfl (by simp)
  case zfin => run_tac Mine.sq
theorem insert_KI {k : Nat} {ki : Int} {kt : Tok} {Q : Value → Shared → Prop} {news' : List (Addr × Obj)} (F : Fr h₀ L s.heap m) (N : News h₀ L s.heap news) (e : ki = ((k : Nat) : Int)) (hk : k ≤ items.size) (hz : items.size ≤ 100)
    (U : Upd D (W.listOf items n) (W.listOf (items.toList.take k ++ v :: items.toList.drop k).toArray (n + 1)) news news') (h : ∀ h', Fr h₀ L h' m → News h₀ L h' news' → Q .none { s with heap := h' }) :
    wpAny (model prog w) A (call (.builtin "list.insert") [.ref D, .int ki kt, v]) Q E s := by
  subst e
  exact insert_K F N hk hz U h
end
/-- five numbers -/
noncomputable def Five (items : Array Value) : Prop := items.size = 5 ∧ ∀ j, j < 5 → ∃ v t, items[j]? = some (.int v t)
theorem five_set {items : Array Value} (h : Five items) (j : Nat) (v : Int) (t : Tok) : Five (items.setIfInBounds j (.int v t)) := by
  refine ⟨by simp [h.1], fun i hi => ?_⟩
  rw [Array.getElem?_setIfInBounds]
  split
  · exact ⟨v, t, by rw [if_pos (by have := h.1; omega)]⟩
  · exact h.2 i hi
theorem ints_get {vals : List Value} {xs : List Int} (hI : IntsAre vals xs) {i : Nat} (hi : i < xs.length) : ∃ v t, vals.toArray[i]? = some (.int v t) := by
  obtain ⟨t, e⟩ := hI.get i xs[i] (List.getElem?_eq_getElem hi)
  exact ⟨xs[i], t, by simpa using e⟩
theorem small63 : ∀ n : Nat, n < 64 → Builtin.Range.small 0 (n : Int) 1 = true := by decide +kernel
theorem size63 (n : Nat) : Builtin.Range.rangeSize 0 (n : Int) 1 = ((n : Nat) : Int) := by rw [rangeSize_nat]; simp
noncomputable def StepsI (rest : List (Addr × Obj)) (g₀ : Array GenState) (lc c1 sc : Addr) (oc : Obj) (_i : Nat) (m : Str → Option Value) (news : List (Addr × Obj)) (g : Array GenState) : Prop :=
  ∃ its n, news = (lc, W.listOf its n) :: (c1, oc) :: rest ∧ Five its ∧ g = g₀ ∧ m (Str.ofString "cells") = some (.ref lc) ∧ m (Str.ofString "script") = some (.ref sc)
noncomputable def UpsI (rest : List (Addr × Obj)) (g₀ : Array GenState) (lu lt lc c1 : Addr) (oc : Obj) (its : Array Value) (n0 : Nat) (i : Nat) (m : Str → Option Value) (news : List (Addr × Obj)) (g : Array GenState) : Prop :=
  ∃ bs : List Bool, ∃ n, news = (lu, W.listOf (bs.map Value.bool).toArray n) :: (lt, W.listOf #[Value.bool true] 0) :: (lc, W.listOf its n0) :: (c1, oc) :: rest ∧ bs.length = 6 + i ∧ bs.count true = 6 ∧ g = g₀
theorem ups_ins (bs : List Bool) (k : Nat) : ((bs.map Value.bool).toArray.toList.take k ++ Value.bool false :: (bs.map Value.bool).toArray.toList.drop k).toArray = ((bs.take k ++ false :: bs.drop k).map Value.bool).toArray := by
  simp [List.map_take, List.map_drop]
theorem ups_count (bs : List Bool) (k : Nat) : (bs.take k ++ false :: bs.drop k).count true = bs.count true := by
  rw [List.count_append, List.count_cons_of_ne (by simp), ← List.count_append, List.take_append_drop]
theorem ups_len (bs : List Bool) (k : Nat) (h : k ≤ bs.length) : (bs.take k ++ false :: bs.drop k).length = bs.length + 1 := by
  simp only [List.length_append, List.length_take, List.length_cons, List.length_drop]; omega
end Mine

theorem Mine.use_M52b : True := by
  w_top off
  run_tac Mine.use ["linesP", "linesZZ"]
  trivial
namespace Mine
theorem PathIs.mono {E E' : List (Addr × Obj)} {items : Array Value} {ps : List (Bool × Str)} (h : PathIs E items ps) (k : ∀ p ∈ E, p ∈ E') : PathIs E' items ps := ⟨h.1, fun i p e => let ⟨t, tb, ts, a, b⟩ := h.2 i p e; ⟨t, tb, ts, a, k _ b⟩⟩
theorem PathIs.snoc {E : List (Addr × Obj)} {ys : List Value} {ps : List (Bool × Str)} {t : Addr} {b : Bool} {g : Str} {tb ts : Tok} (h : PathIs E ys.toArray ps) (hm : (t, tupO [.str (blk b) tb, .str g ts]) ∈ E) : PathIs E (ys ++ [Value.ref t]).toArray (ps ++ [(b, g)]) := by
  refine @Mine.sqz _ ?zmain ?zfin
  case zmain =>
    have h1 : ys.length = ps.length := by simpa using h.1
    refine ⟨by simp [h1], fun i p e => ?_⟩
    by_cases hi : i < ps.length
    · rw [List.getElem?_append_left hi] at e
      obtain ⟨t', tb', ts', e1, e2⟩ := h.2 i p e
      refine ⟨t', tb', ts', ?_, e2⟩
      rw [List.getElem?_toArray] at e1 ⊢
      rw [List.getElem?_append_left (by omega)]; exact e1
    · have hi2 : i = ps.length := by
        have := (List.getElem?_eq_some_iff.mp e).1
        simp at this; omega
      subst hi2
      simp at e
      subst e
      exact ⟨t, tb, ts, by rw [List.getElem?_toArray, ← h1]; simp, hm⟩
  case zfin => run_tac Mine.sq
noncomputable def psOf (bs : List Bool) : List (Bool × Str) := bs.zip signs
open PyProof.Rows.LCg in
theorem steps_rest {prog : Program} {w : World} {A : Around} {s : Shared} {h₀ : Heap} {L : Addr} {m : Str → Option Value} {env : Env} {x y : Str} {p1 p2 p3 p4 p5 p6 q0 q1 pb pt : Pos} {k0 k1 kb kt : Nat} {scope : Scope} {cl : List (Str × Addr)} {Fin : List Value → List (Addr × Obj) → Prop} {base : List (Addr × Obj)} {c1 lu : Addr} {o1 : Obj} {n : Nat} {bs : List Bool} {big : Str}
  (hk : ∀ C, (compEnvC scope cl C env).scope.kind = .function) (hx : ∀ C, (compEnvC scope cl C env).kindOf x = some .local) (hy : ∀ C, (compEnvC scope cl C env).kindOf y = some .cell) (bx : (x == ("__debug__" : Str)) = false) (bY : (y == ("__debug__" : Str)) = false)
  (hcy : cl.lookup y = some c1) (m1 : (c1, o1) ∈ base) (d1 : o1.data = .cell (some (.ref lu))) (hli : (lu, W.listOf (bs.map Value.bool).toArray n) ∈ base) (hbl : bs.length = 11)
  (hbig : ∀ i : Nat, i < 11 → ((seqIndex? (0 + (i : Int)) big.length).bind (big.cps[·]?)).map (fun c => (⟨#[c]⟩ : Str)) = some (signs.getD i ""))
  (hfin : ∀ (ys : List Value) news, (∀ p ∈ base, p ∈ news) → PathIs news ys.toArray (psOf bs) → Fin ys news) :
  ∀ k i (ys : List Value) (news : List (Addr × Obj)), i + k = 11 → (∀ p ∈ base, p ∈ news) → PathIs news ys.toArray ((psOf bs).take i) →
   CompRest prog w A h₀ L m env (.Tuple [.IfExp (.Subscript (.Name y p1) (.Name x p2) p3) (.Constant (.str (Str.ofString " ")) k1 q1) (.Constant (.str (Str.ofString "")) k0 q0) p4, .Subscript (.Constant (.str big) kb pb) (.Name x p5) p6] kt pt) x scope cl s (fun _ => True) (fun i v => ∃ t, v = .int (0 + (i : Int)) t) Fin k i ys news
  | 0, i, ys, news, e, hb, hp => CompRest.zero (hfin ys news hb (by rw [List.take_of_length_le (by simp [psOf, hbl, signs]; omega)] at hp; exact hp))
  | k + 1, i, ys, news, e, hb, hp => CompRest.succ fun v I oI C oC D m₂ h tk E' hP hC hx2 F N off ne => by
    obtain ⟨tv, rfl⟩ := hP
    have hi : i < 11 := by omega
    have hib : i < bs.length := by omega
    have tl : ∀ {q : Addr × Obj}, q ∈ base → q ∈ (I, oI) :: (C, oC) :: (D, lst ys) :: news := fun hq => .tail _ (.tail _ (.tail _ (hb _ hq)))
    have hxx : (bs.map Value.bool).toArray[(0 + (i : Int)).toNat]? = some (.bool bs[i]) := by
      rw [show (0 + (i : Int)).toNat = i by omega, List.getElem?_toArray, List.getElem?_map, List.getElem?_eq_getElem hib]; rfl
    obtain ⟨c, hc1, hc2⟩ := Option.map_eq_some_iff.mp (hbig i hi)
    have hsg : (psOf bs)[i]? = some (bs[i], signs.getD i "") := by
      have h2 : i < signs.length := by simp only [signs, List.length_cons, List.length_nil]; omega
      rw [psOf, List.getElem?_zip_eq_some]
      exact ⟨List.getElem?_eq_getElem hib, by rw [List.getD_eq_getElem?_getD, List.getElem?_eq_getElem h2]; rfl⟩
    have htk : (psOf bs).take (i + 1) = (psOf bs).take i ++ [(bs[i], signs.getD i "")] := by rw [List.take_add_one, hsg]; rfl
    -- what comes behind the first of the two
    have fin : ∀ (b : Bool) (tb : Tok) (tk : Nat), b = bs[i] → wpAny (model prog w) A (spliced (backTo pt (starEach [.Subscript (.Constant (.str big) kb pb) (.Name x p5) p6] (compEnvC scope cl C env)))) (fun vs s₂ => wpAny (model prog w) A (newTuple (.str (blk b) tb :: vs)) (CompEnd h₀ L m { s with heap := h, toks := tk } I oI C oC D (lst ys) (fun _ => True) (fun z news' => CompRest prog w A h₀ L m env (.Tuple [.IfExp (.Subscript (.Name y p1) (.Name x p2) p3) (.Constant (.str (Str.ofString " ")) k1 q1) (.Constant (.str (Str.ofString "")) k0 q0) p4, .Subscript (.Constant (.str big) kb pb) (.Name x p5) p6] kt pt) x scope cl s (fun _ => True) (fun i v => ∃ t, v = .int (0 + (i : Int)) t) Fin k (i + 1) (ys ++ [z]) news')) E' s₂) E' { s with heap := h, toks := tk } := by
      intro b tb tk hbi
      refine spliced_more (Subscript_ (Calls.Constant_str (LCgL.ld_own N (.tail _ (.head _)) hC hx2 (subscriptTail_builtin (typeIs_str _ _ _) PySem.F.slot_str_getitem.lookup (getItem_str ?_ hc1 ?_)) (hk C) (hx C) bx)))
      · rw [Bool.or_eq_false_iff]; exact ⟨decide_eq_false (by omega), decide_eq_false (by omega)⟩
      refine spliced_none ?_
      refine newTuple_N F N (fun h' F' N' => ?_) (by rw [sizeLine_eq]; simp)
      have hlt : ∀ q ∈ (I, oI) :: (C, oC) :: (D, lst ys) :: news, q.1 ≠ h.objs.size := fun q hq => Nat.ne_of_lt (Heap.lt_size (N q hq).1)
      refine ⟨h', _, (h.objs.size, tupO [.str (blk b) tb, .str ⟨#[c]⟩ (tk + 1)]) :: news, rfl, F', fun q hq => N' q ?_, ⟨⟨Ne.symm (hlt _ (.head _)), Ne.symm (hlt _ (.tail _ (.head _))), Ne.symm (hlt _ (.tail _ (.tail _ (.head _))))⟩, off⟩, trivial, ?_⟩
      · simp only [List.mem_cons] at hq ⊢
        rcases hq with e | e | e | e | e
        · exact .inr (.inl e)
        · exact .inr (.inr (.inl e))
        · exact .inr (.inr (.inr (.inl e)))
        · exact .inl e
        · exact .inr (.inr (.inr (.inr e)))
      · refine steps_rest hk hx hy bx bY hcy m1 d1 hli hbl hbig hfin k (i + 1) _ _ (by omega) (fun p hp => .tail _ (hb p hp)) ?_
        rw [htk, ← hbi, ← hc2]
        exact (hp.mono fun p hp => .tail _ hp).snoc (.head _)
    refine Tuple_ (spliced_more (IfExp_ (isTrue_plain (Subscript_ (lcf_cell N hcy (tl m1) d1 (LCgL.ld_own N (.tail _ (.head _)) hC hx2 (PyProof.Rows.item_list (News.isList N (tl hli)) (by omega) (by omega) hxx ?_) (hk C) (hx C) bx) (hk C) (hy C) bY)))))
    refine wpAny_truthy_bool ?_
    cases hbb : bs[i] with
    | true =>
      rw [if_pos rfl]
      exact Calls.Constant_str (fin true _ _ hbb.symm)
    | false =>
      rw [if_neg Bool.false_ne_true]
      exact Calls.Constant_str (fin false _ _ hbb.symm)
end Mine

theorem Mine.row_linesT : True := by
  k_with "@linesT@call builtin:len" => ((k_here; (with_reducible show wpAny _ _ (call (Value.builtin "len") [Value.ref _]) _ _ _); k_dflt (refine' PyProof.Rows.len_list ?k1 ?k2 ?_; (case k1 => first | exact News.isList (by k_asm) (by run_tac Mine.memT) | exact Mine.list_keep (by assumption) (by k_asm)); (case k2 => first | omega | (simp only [Array.size_push]; omega) | (simp only [List.size_toArray]; omega)))))
  k_with "@linesT@getItem ref int" => ((k_here; k_dflt (refine' wpAny_getItem_list ?l ?a ?b ?x ?_; (case l => first | exact News.isList (by k_asm) (by run_tac Mine.memT) | exact Mine.list_keep (by assumption) (by k_asm)); (case x => assumption); (case a => omega); (case b => omega))))
  k_with "@linesT@setItem ref int" => ((k_here; k_dflt (refine' Mine.set_at_U ?F ?N ?U ?a ?b ?z ?_; (case F => k_asm); (case N => k_asm); (case U => k_updF); (case a => omega); (case b => omega); (case z => omega)); intro h' F' N'; (try dsimp only at N')))
  k_with "@linesT@subscriptTail" => ((k_here; (with_reducible show wpAny _ _ (subscriptTail _ _ (Value.ref _) (Value.int _ _)) _ _ _); k_dflt (refine' PyProof.Rows.item_list ?k1 ?k2 ?k3 ?k4 ?_; (case k1 => exact Mine.list_keep (by assumption) (by k_asm)); (case k2 => omega); (case k3 => omega); (case k4 => assumption))))
  k_with "@linesT@call builtin:list.insert" => ((k_here; k_dflt (refine' Mine.insert_KI ?k1 ?k2 ?e ?k3 ?k4 ?k5 ?_; (case k1 => k_asm); (case k2 => k_asm); (case e => exact Mine.nat_of (by omega)); (case k5 => k_upd); (case k3 => first | assumption | omega); (case k4 => first | assumption | omega)); intro h' F' N'))
  k_with "@linesT@binaryOp Mult ref int" => ((k_here; (with_reducible show wpAny _ _ (binaryOp Operator.Mult (Value.ref _) (Value.int _ _)) _ _ _); k_dflt (refine' KMa.mul (vs := [Value.bool true]) (ws := [Value.bool true, Value.bool true, Value.bool true, Value.bool true, Value.bool true, Value.bool true]) ?F ?N ?l ?lo ?hi ?z ?e ?_; (case F => k_asm); (case N => k_asm); (case l => exact News.isList (by k_asm) (by run_tac Mine.memT)); (case lo => decide); (case hi => decide); (case z => decide); (case e => exact rfl)); intro D' h' F' N' l1; (try k_lt l1)))
  trivial
theorem Mine.row_linesU : True := by
  k_with "@linesU@CompSrc" => ((k_here; k_dflt (refine' LCg.CompSrc.range (n := 11) ?a1 ?a2 ?a3 ?a4 ?a5 ?a6 ?a7 ?_; (case a1 => rfl); (case a2 => k_asm); (case a3 => k_asm); (case a4 => assumption); (case a5 => decide); (case a6 => decide); (case a7 => (rw [sizeLine_eq]; decide)); intro g'; refine' Mine.steps_rest (fun _ => rfl) (fun _ => rfl) (fun _ => rfl) ?b1 ?b2 ?c1 ?m1 ?d1 ?li ?bl ?big ?_ _ _ _ _ ?e0 ?hb ?hp; (case hb => exact fun p h => h); (case b1 => decide); (case b2 => decide); (case c1 => rfl); (case d1 => assumption); (case m1 => run_tac Mine.memT); (case li => run_tac Mine.memT); (case bl => assumption); (case big => decide +kernel); (case e0 => rfl); (case hp => exact ⟨rfl, fun _ _ e => (nomatch e)⟩); intro ys' nw' hb' hp')))
  trivial
theorem Mine.use_M52 : True := by
  w_top off
  run_tac Mine.use ["linesP", "lines", "clines", "clines2", "lines3", "lines4", "lines5", "lines6", "lines8", "linesS", "linesF", "linesT", "linesU", "linesZZ"]
  trivial
namespace Mine
theorem steps_c {w : World} {A₀ : Around} {base h₀ : Heap} {outer : List Env} {env : Env} {L : Addr} {m : Str → Option Value} {s : Shared} {lo me} {mg mb} {R : Result → Shared → Prop} {d u : Nat} {gd : Option (List Code)}
 {sc : Addr} {vals : List Value} {xs : List Int} {rest : List (Addr × Obj)}
 (B : Below A₀ base outer h₀) (F : Fr h₀ L s.heap m) (X : (Mine.hd.heap_39 w.params).In h₀) (N : News h₀ L s.heap rest) (T0 : Top topProg lo me mg mb h₀) (hf : env.frame = some L) (hke : env.scope.kind = .function) (hd : d < 310) (hu : u < 100)
 (hl : h₀.IsList sc vals.toArray) (hI : IntsAre vals xs) (hz : xs.length ≤ 63)
 (h : ∀ D h' tk' ys nw n bs, Fr h₀ L h' m → News h₀ L h' ((D, W.listOf ys n) :: nw) → (∀ p ∈ rest, p ∈ nw) → PathIs nw ys (psOf bs) → bs.length = 11 → bs.count true = 6 → R (.ok (.ret (.ref D))) (St s h' s.gens tk'))
 :
 codeAny (model Challenge.rw_if0017_01.row.prog w) (Around.mk none d (some (env :: outer)) gd u) (.call (.ref 284) ⟨[.ref sc], []⟩) R s := by
  refine @Mine.sqz _ ?zmain ?zfin
  case zmain =>
    revert X; k_fill; intro X
    refine' code_defC ?k1 ?k2 ?k3 ?k4 ?k5 ?kA ?kF ?kK ?k6 ?k7 ?k8 ?k9 ?kB ?kD ?_ ?c2 ?c3 ?c4
    case kA => exact rfl
    case kF => assumption
    case kK => assumption
    case k1 => assumption
    case k2 => assumption
    case k3 => assumption
    case k4 => assumption
    case k5 => assumption
    case k6 => k_is
    case k7 => k_is
    case k8 => k_room
    case k9 => exact BindsTo.of_eq rfl
    case kB => exact rfl
    case kD => decide +kernel
    case c2 => exact rfl
    case c3 => exact rfl
    case c4 => exact rfl
    intro g' L' h' tk' cells' FG' F' N' Y' B' X' T' l1
    have l2 : AllLt (L' + 1) rest := allLt_of fun p hp => Nat.lt_succ_of_lt (l1 p hp)
    have l3 : AllLt L' rest := allLt_of l1
    clear l1
    k_cells Y'
    (try simp only [List.cons_append, List.nil_append] at N')
    (try dsimp only)
    have hlg : g'.IsList sc vals.toArray := list_keep hl FG'
    have hvz : vals.length ≤ 63 := by rw [IntsAre.length hI]; exact hz
    k_steps
    rename_i oc dc lc hA lt1 hB F0 N0 hlen hC tk1 tr ur vr hrg F1 N1 hkeep
    have hrl : AllLt lc rest := lt1.2
    unfold Stop
    refine' for_range (n := xs.length) (StepsI rest s.gens lc (L' + 1) sc oc) rfl ?fF ?fN ?fR (small63 _ (by omega)) (size63 _) ?_ ?_ ?_
    case fF => exact F1
    case fN => exact N1
    case fR => exact hrg
    · refine ⟨_, _, rfl, ⟨rfl, fun j hj => ?_⟩, rfl, rfl, rfl⟩
      match j, hj with
      | 0, _ => exact ⟨_, _, rfl⟩
      | 1, _ => exact ⟨_, _, rfl⟩
      | 2, _ => exact ⟨_, _, rfl⟩
      | 3, _ => exact ⟨_, _, rfl⟩
      | 4, _ => exact ⟨_, _, rfl⟩
    · rintro i m news g h tk it tv E' hi ⟨its, n, rfl, h5, rfl, hm1, hm2⟩ F3 N3 di
      have em : m = fun y => if y = Str.ofString "cells" then some (Value.ref lc) else if y = Str.ofString "script" then some (Value.ref sc) else m y := map2 (by with_reducible assumption) (by with_reducible assumption)
      rw [em] at F3
      have hfm : 0 ≤ (0 + (i : Int)).fmod 5 ∧ (0 + (i : Int)).fmod 5 < 5 := by rw [Int.fmod_eq_emod_of_nonneg _ (by decide)]; omega
      obtain ⟨v1, t1, hx1⟩ := h5.2 ((0 + (i : Int)).fmod 5).toNat (by omega)
      obtain ⟨v2, t2, hx2⟩ := ints_get ‹IntsAre vals xs› hi
      have hx2 : vals.toArray[(0 + (i : Int)).toNat]? = some (.int v2 t2) := by rw [show (0 + (i : Int)).toNat = i by omega]; exact hx2
      have h51 := h5.1
      have d8 := allNe_of di
      simp only [AllNe] at d8
      dsimp only [St]
      refine wpAny_pure ?_
      k_steps
      rename_i F9 N9
      exact TurnEnd.intro F9 N9 (List.forall_mem_cons.mpr ⟨d8.1, fun p hp => di p (.tail _ hp)⟩) ⟨_, _, rfl, five_set h5 _ _ _, rfl, rfl, rfl⟩
    · rintro m news g hX tk ⟨its, n, rfl, h5, rfl, hm1, hm2⟩ F3 N3
      have em : m = fun y => if y = Str.ofString "cells" then some (Value.ref lc) else if y = Str.ofString "script" then some (Value.ref sc) else m y := map2 (by with_reducible assumption) (by with_reducible assumption)
      rw [em] at F3
      dsimp only [St]
      have h51 := h5.1
      k_steps
      rename_i lt hA2 lt2 lu hB2 lt3 hC2 oc2 F4 N4 dc2
      unfold Stop
      refine' for_list (vs := its) (UpsI rest s.gens lu lt lc (L' + 1) oc2 its n) rfl ?gF ?gN ?_ ?_ ?_ ?_
      case gF => exact F4
      case gN => exact N4
      · rintro i m news g h ⟨bs, n9, rfl, _⟩ _ N
        exact N.isList (.tail _ (.tail _ (.head _)))
      · exact ⟨[true, true, true, true, true, true], _, rfl, rfl, rfl, rfl⟩
      · rintro i v m2 news g h tk it E' hv ⟨bs, n9, rfl, hbl, hbc, rfl⟩ F5 N5 di
        have hi : i < 5 := by rw [← h51]; exact (Array.getElem?_eq_some_iff.mp hv).1
        obtain ⟨vi, ti, hvi⟩ := h5.2 i hi
        obtain rfl : v = .int vi ti := Option.some.inj (hv.symm.trans hvi)
        have hsz : (bs.map Value.bool).toArray.size = 6 + i := by simp [hbl]
        have hfm : 0 ≤ vi.fmod (((bs.map Value.bool).toArray.size : Nat) + 1) ∧ vi.fmod (((bs.map Value.bool).toArray.size : Nat) + 1) ≤ 6 + i := by
          rw [hsz, Int.fmod_eq_emod_of_nonneg _ (by omega)]
          have h1 := Int.emod_nonneg vi (b := (((6 + i : Nat) : Int) + 1)) (by omega)
          have h2 := Int.emod_lt_of_pos vi (b := (((6 + i : Nat) : Int) + 1)) (by omega)
          omega
        have d8 := allNe_of di
        simp only [AllNe] at d8
        dsimp only [St]
        refine wpAny_pure ?_
        k_steps
        rename_i F9 N9
        rw [ups_ins] at N9
        exact TurnEnd.intro F9 N9 (List.forall_mem_cons.mpr ⟨d8.1, fun p hp => di p (.tail _ hp)⟩) ⟨_, _, rfl, by rw [ups_len _ _ (by omega)]; omega, by rw [ups_count]; exact hbc, rfl⟩
      · rintro m2 news g h9 tk ⟨bs, n9, rfl, hbl, hbc, rfl⟩ F5 N5
        dsimp only [St]
        have hbl : bs.length = 11 := by rw [hbl, h51]
        k_steps
        rename_i ys9 nw9 hb9 hp9 D9 h99 tk9 F9 N9 o9 kF kN Tc kX
        exact h D9 _ _ _ nw9 _ bs kF kN (fun p hp => hb9 p (.tail _ (.tail _ (.tail _ (.tail _ hp))))) hp9 hbl hbc
  case zfin => run_tac Mine.sq
end Mine

theorem Mine.use_M80 : True := by
  w_top off
  run_tac Mine.use ["linesP", "linesZZ"]
  trivial
namespace Mine
noncomputable def combs : Nat → Nat → List (List Bool)
  | 0, 0 => [[]]
  | 0, _ + 1 => []
  | n + 1, 0 => (combs n 0).map (false :: ·)
  | n + 1, k + 1 => (combs n k).map (true :: ·) ++ (combs n (k + 1)).map (false :: ·)
theorem mem_combs : ∀ (bs : List Bool) (k : Nat), bs.count true = k → bs ∈ combs bs.length k
  | [], 0, _ => .head _
  | [], k + 1, h => by simp at h
  | true :: bs, 0, h => by simp at h
  | true :: bs, k + 1, h => by
    have h1 : bs.count true = k := by simpa using h
    exact List.mem_append_left _ (List.mem_map.mpr ⟨bs, mem_combs bs k h1, rfl⟩)
  | false :: bs, 0, h => by
    have h1 : bs.count true = 0 := by simpa using h
    exact List.mem_map.mpr ⟨bs, mem_combs bs 0 h1, rfl⟩
  | false :: bs, k + 1, h => by
    have h1 : bs.count true = k + 1 := by simpa using h
    exact List.mem_append_right _ (List.mem_map.mpr ⟨bs, mem_combs bs (k + 1) h1, rfl⟩)
/-- the heights behind the steps, from a height on -/
noncomputable def htsB : Int → List Bool → List Int
  | _, [] => []
  | h, b :: r => (if b then h + 1 else h - 1) :: htsB (if b then h + 1 else h - 1) r
noncomputable def rowB (Hs : List Int) (bs : List Bool) : Nat → List Nat
  | 0 => []
  | i + 1 => if bs.getD i false then insN (fun k => Hs.getD k 0) (rowB Hs bs i) i else rowB Hs bs i
noncomputable def plB (Hs : List Int) (bs : List Bool) : Nat → List Int
  | 0 => []
  | i + 1 => if bs.getD i false then insI (plB Hs bs i) (Hs.getD i 0) else plB Hs bs i
/-- how many steps up begin an element that is written -/
noncomputable def ovr : Int → List Bool → Nat
  | _, [] => 0
  | h, true :: r => (if 0 ≤ h then 1 else 0) + ovr (h + 1) r
  | h, false :: r => ovr (h - 1) r
/-- the second rows that there are -/
noncomputable def goodP : List (List Int) := [[-4, -3, -2, -1, 0, 1], [-3, -3, -2, -1, 0, 1], [-3, -2, -2, -1, 0, 1], [-3, -2, -1, -1, 0, 1], [-3, -2, -1, 0, 0, 1], [-3, -2, -1, 0, 1, 1], [-3, -2, -1, 0, 1, 2], [-2, -2, -2, -1, 0, 1], [-2, -2, -1, -1, 0, 1], [-2, -2, -1, 0, 0, 1], [-2, -2, -1, 0, 1, 1], [-2, -2, -1, 0, 1, 2], [-2, -1, -1, -1, 0, 1], [-2, -1, -1, 0, 0, 1], [-2, -1, -1, 0, 1, 1], [-2, -1, -1, 0, 1, 2], [-2, -1, 0, 0, 0, 1], [-2, -1, 0, 0, 1, 1], [-2, -1, 0, 0, 1, 2], [-2, -1, 0, 1, 1, 1], [-2, -1, 0, 1, 1, 2], [-2, -1, 0, 1, 2, 2], [-2, -1, 0, 1, 2, 3], [-1, -1, -1, -1, 0, 1], [-1, -1, -1, 0, 0, 1], [-1, -1, -1, 0, 1, 1], [-1, -1, -1, 0, 1, 2], [-1, -1, 0, 0, 0, 1], [-1, -1, 0, 0, 1, 1], [-1, -1, 0, 0, 1, 2], [-1, -1, 0, 1, 1, 1], [-1, -1, 0, 1, 1, 2], [-1, -1, 0, 1, 2, 2], [-1, -1, 0, 1, 2, 3], [-1, 0, 0, 0, 0, 1], [-1, 0, 0, 0, 1, 1], [-1, 0, 0, 0, 1, 2], [-1, 0, 0, 1, 1, 1], [-1, 0, 0, 1, 1, 2], [-1, 0, 0, 1, 2, 2], [-1, 0, 0, 1, 2, 3], [-1, 0, 1, 1, 1, 1], [-1, 0, 1, 1, 1, 2], [-1, 0, 1, 1, 2, 2], [-1, 0, 1, 1, 2, 3], [-1, 0, 1, 2, 2, 2], [-1, 0, 1, 2, 2, 3], [-1, 0, 1, 2, 3, 3], [-1, 0, 1, 2, 3, 4], [0, 0, 0, 0, 0, 1], [0, 0, 0, 0, 1, 1], [0, 0, 0, 0, 1, 2], [0, 0, 0, 1, 1, 1], [0, 0, 0, 1, 1, 2], [0, 0, 0, 1, 2, 2], [0, 0, 0, 1, 2, 3], [0, 0, 1, 1, 1, 1], [0, 0, 1, 1, 1, 2], [0, 0, 1, 1, 2, 2], [0, 0, 1, 1, 2, 3], [0, 0, 1, 2, 2, 2], [0, 0, 1, 2, 2, 3], [0, 0, 1, 2, 3, 3], [0, 0, 1, 2, 3, 4], [0, 1, 1, 1, 1, 1], [0, 1, 1, 1, 1, 2], [0, 1, 1, 1, 2, 2], [0, 1, 1, 1, 2, 3], [0, 1, 1, 2, 2, 2], [0, 1, 1, 2, 2, 3], [0, 1, 1, 2, 3, 3], [0, 1, 1, 2, 3, 4], [0, 1, 2, 2, 2, 2], [0, 1, 2, 2, 2, 3], [0, 1, 2, 2, 3, 3], [0, 1, 2, 2, 3, 4], [0, 1, 2, 3, 3, 3], [0, 1, 2, 3, 3, 4], [0, 1, 2, 3, 4, 4], [0, 1, 2, 3, 4, 5], [1, 1, 1, 1, 1, 1], [1, 1, 1, 1, 1, 2], [1, 1, 1, 1, 2, 2], [1, 1, 1, 1, 2, 3], [1, 1, 1, 2, 2, 2], [1, 1, 1, 2, 2, 3], [1, 1, 1, 2, 3, 3], [1, 1, 1, 2, 3, 4], [1, 1, 2, 2, 2, 2], [1, 1, 2, 2, 2, 3], [1, 1, 2, 2, 3, 3], [1, 1, 2, 2, 3, 4], [1, 1, 2, 3, 3, 3], [1, 1, 2, 3, 3, 4], [1, 1, 2, 3, 4, 4], [1, 1, 2, 3, 4, 5], [1, 2, 2, 2, 2, 2], [1, 2, 2, 2, 2, 3], [1, 2, 2, 2, 3, 3], [1, 2, 2, 2, 3, 4], [1, 2, 2, 3, 3, 3], [1, 2, 2, 3, 3, 4], [1, 2, 2, 3, 4, 4], [1, 2, 2, 3, 4, 5], [1, 2, 3, 3, 3, 3], [1, 2, 3, 3, 3, 4], [1, 2, 3, 3, 4, 4], [1, 2, 3, 3, 4, 5], [1, 2, 3, 4, 4, 4], [1, 2, 3, 4, 4, 5], [1, 2, 3, 4, 5, 5], [1, 2, 3, 4, 5, 6]]
noncomputable def fndP (Ps : List Int) (i : Nat) : Bool :=
  decide ((((bisR (fun i => Ps.getD i 0) (-4 + (i : Int)) ((6 - (-4 + (i : Int)).fmod 3).toNat - ((-4 + (i : Int)).fmod 3).toNat) ((-4 + (i : Int)).fmod 3).toNat (6 - (-4 + (i : Int)).fmod 3).toNat : Nat) : Int) = dueF (((Ps.filter (fun p => decide (p ≤ -4 + (i : Int)))).length : Nat) : Int) ((-4 + (i : Int)).fmod 3)) ∧
  (((bisL (fun i => Ps.getD i 0) (-4 + (i : Int) + 1) ((6 - (-4 + (i : Int)).fmod 3).toNat - ((-4 + (i : Int)).fmod 3).toNat) ((-4 + (i : Int)).fmod 3).toNat (6 - (-4 + (i : Int)).fmod 3).toNat : Nat) : Int) = dueF (((Ps.filter (fun p => decide (p ≤ -4 + (i : Int)))).length : Nat) : Int) ((-4 + (i : Int)).fmod 3)))
theorem fnd_all : goodP.all (fun Ps => (List.range 11).all (fndP Ps)) = true := by decide +kernel
noncomputable def chk (bs : List Bool) : Bool :=
  let Hs := htsB 0 bs
  let Rs := rowB Hs bs 11
  let Ps := plB Hs bs 11
  Rs.length == 6 && (Ps == Rs.map (fun k => Hs.getD k 0)) && goodP.contains Ps && (List.range 6).all (fun r => ovr 0 (bs.drop (Rs.getD r 0 + 1) ++ bs.take (Rs.getD r 0)) == 5 - r)
end Mine

theorem Mine.use_M80b : True := by
  w_top off
  run_tac Mine.use ["linesP", "linesZZ"]
  trivial
namespace Mine
theorem allc (P : List Bool → Bool) (n k : Nat) : (combs (n + 1) (k + 1)).all P = ((combs n k).all (fun l => P (true :: l)) && (combs n (k + 1)).all fun l => P (false :: l)) := by
  rw [combs, List.all_append, List.all_map, List.all_map]; rfl
theorem and_t {a b : Bool} (h : a = true) (k : b = true) : (a && b) = true := by rw [h, k]; rfl
theorem chk_tttt : (combs 7 2).all (fun l => chk (true :: true :: true :: true :: l)) = true := by decide +kernel
theorem chk_tttf : (combs 7 3).all (fun l => chk (true :: true :: true :: false :: l)) = true := by decide +kernel
theorem chk_ttft : (combs 7 3).all (fun l => chk (true :: true :: false :: true :: l)) = true := by decide +kernel
theorem chk_ttff : (combs 7 4).all (fun l => chk (true :: true :: false :: false :: l)) = true := by decide +kernel
theorem chk_tftt : (combs 7 3).all (fun l => chk (true :: false :: true :: true :: l)) = true := by decide +kernel
theorem chk_tftf : (combs 7 4).all (fun l => chk (true :: false :: true :: false :: l)) = true := by decide +kernel
theorem chk_tfft : (combs 7 4).all (fun l => chk (true :: false :: false :: true :: l)) = true := by decide +kernel
theorem chk_tfff : (combs 7 5).all (fun l => chk (true :: false :: false :: false :: l)) = true := by decide +kernel
theorem chk_fttt : (combs 7 3).all (fun l => chk (false :: true :: true :: true :: l)) = true := by decide +kernel
theorem chk_fttf : (combs 7 4).all (fun l => chk (false :: true :: true :: false :: l)) = true := by decide +kernel
theorem chk_ftft : (combs 7 4).all (fun l => chk (false :: true :: false :: true :: l)) = true := by decide +kernel
theorem chk_ftff : (combs 7 5).all (fun l => chk (false :: true :: false :: false :: l)) = true := by decide +kernel
theorem chk_fftt : (combs 7 4).all (fun l => chk (false :: false :: true :: true :: l)) = true := by decide +kernel
theorem chk_fftf : (combs 7 5).all (fun l => chk (false :: false :: true :: false :: l)) = true := by decide +kernel
theorem chk_ffft : (combs 7 5).all (fun l => chk (false :: false :: false :: true :: l)) = true := by decide +kernel
theorem chk_ffff : (combs 7 6).all (fun l => chk (false :: false :: false :: false :: l)) = true := by decide +kernel
theorem chk_all : (combs 11 6).all chk = true := ((allc (fun l => chk (l)) 10 5).trans (and_t ((allc (fun l => chk (true :: l)) 9 4).trans (and_t ((allc (fun l => chk (true :: true :: l)) 8 3).trans (and_t ((allc (fun l => chk (true :: true :: true :: l)) 7 2).trans (and_t chk_tttt chk_tttf)) ((allc (fun l => chk (true :: true :: false :: l)) 7 3).trans (and_t chk_ttft chk_ttff)))) ((allc (fun l => chk (true :: false :: l)) 8 4).trans (and_t ((allc (fun l => chk (true :: false :: true :: l)) 7 3).trans (and_t chk_tftt chk_tftf)) ((allc (fun l => chk (true :: false :: false :: l)) 7 4).trans (and_t chk_tfft chk_tfff)))))) ((allc (fun l => chk (false :: l)) 9 5).trans (and_t ((allc (fun l => chk (false :: true :: l)) 8 4).trans (and_t ((allc (fun l => chk (false :: true :: true :: l)) 7 3).trans (and_t chk_fttt chk_fttf)) ((allc (fun l => chk (false :: true :: false :: l)) 7 4).trans (and_t chk_ftft chk_ftff)))) ((allc (fun l => chk (false :: false :: l)) 8 5).trans (and_t ((allc (fun l => chk (false :: false :: true :: l)) 7 4).trans (and_t chk_fftt chk_fftf)) ((allc (fun l => chk (false :: false :: false :: l)) 7 5).trans (and_t chk_ffft chk_ffff))))))))
end Mine

theorem Mine.use_M81 : True := by
  w_top off
  run_tac Mine.use ["linesP", "linesZZ"]
  trivial
namespace Mine
theorem htsB_len : ∀ (bs : List Bool) (h : Int), (htsB h bs).length = bs.length
  | [], _ => rfl
  | b :: bs, h => by rw [htsB, List.length_cons, List.length_cons, htsB_len bs]
theorem htsB_get : ∀ (bs : List Bool) (h : Int) (i : Nat), i < bs.length → (htsB h bs).getD i 0 = h + 2 * (((bs.take (i + 1)).count true : Nat) : Int) - ((i + 1 : Nat) : Int)
  | b :: bs, h, 0, _ => by cases b <;> simp [htsB] <;> omega
  | b :: bs, h, i + 1, hi => by
    have hi' : i < bs.length := by simpa using hi
    rw [htsB, List.getD_cons_succ, htsB_get bs _ i hi']
    cases b <;> simp [List.take_succ_cons] <;> omega
theorem weight_app (a b : List (Str × Str)) : weight (a ++ b) = weight a + weight b := by
  unfold weight; rw [List.map_append, List.sum_append]
theorem psOf_get {bs : List Bool} (hbl : bs.length = 11) {i : Nat} (hi : i < 11) : ∃ hb : i < bs.length, (psOf bs)[i]? = some (bs[i], signs.getD i "") := by
  refine @Mine.sqz _ ?zmain ?zfin
  case zmain =>
    have hib : i < bs.length := by omega
    refine ⟨hib, ?_⟩
    have h2 : i < signs.length := by simp only [signs, List.length_cons, List.length_nil]; omega
    rw [psOf, List.getElem?_zip_eq_some]
    exact ⟨List.getElem?_eq_getElem hib, by rw [List.getD_eq_getElem?_getD, List.getElem?_eq_getElem h2]; rfl⟩
  case zfin => run_tac Mine.sq
theorem weight_acc {bs : List Bool} (hbl : bs.length = 11) : ∀ n, n ≤ 11 → weight (accOf (psOf bs) n) = ((n : Nat) : Int) + (((bs.take n).count true : Nat) : Int)
  | 0, _ => by simp [accOf, weight]
  | n + 1, hn => by
    obtain ⟨hb, e⟩ := psOf_get hbl (i := n) (by omega)
    have h2 : n < signs.length := by simp only [signs, List.length_cons, List.length_nil]; omega
    have h3 : (signs.getD n "").length = 1 := signs_short _ (by rw [List.getD_eq_getElem?_getD, List.getElem?_eq_getElem h2]; exact List.getElem_mem h2)
    rw [accOf_succ e, weight_app, weight_acc hbl n (by omega), List.take_add_one, List.getElem?_eq_getElem hb, List.count_append]
    have h4 : weight [(blk bs[n], signs.getD n "")] = 1 + (([bs[n]].count true : Nat) : Int) := by
      cases hbb : bs[n]
      · show (((blk false).length + (signs.getD n "").length : Nat) : Int) + 0 = _
        rw [h3, show (blk false).length = 0 by decide +kernel]; simp
      · show (((blk true).length + (signs.getD n "").length : Nat) : Int) + 0 = _
        rw [h3, show (blk true).length = 1 by decide +kernel]; simp
    rw [h4]
    simp only [Option.toList_some]
    omega
theorem hF_eq {bs : List Bool} (hbl : bs.length = 11) {i : Nat} (hi : i < 11) : hF (psOf bs) i = (htsB 0 bs).getD i 0 := by
  rw [htsB_get bs 0 i (by omega), hF, weight_acc hbl (i + 1) (by omega)]; omega
end Mine

theorem Mine.use_M82 : True := by
  w_top off
  run_tac Mine.use ["linesP", "linesZZ"]
  trivial
namespace Mine
theorem bisR_congr {f g : Nat → Int} {x : Int} {N : Nat} (h : ∀ i, i < N → f i = g i) : ∀ k lo hi, hi ≤ N → bisR f x k lo hi = bisR g x k lo hi
  | 0, _, _, _ => rfl
  | k + 1, lo, hi, hh => by
    unfold bisR
    by_cases hlt : lo < hi
    · rw [if_pos hlt, if_pos hlt, h _ (by omega), bisR_congr h k lo ((lo + hi) / 2) (by omega), bisR_congr h k ((lo + hi) / 2 + 1) hi hh]
    · rw [if_neg hlt, if_neg hlt]
theorem rowB_lt (Hs : List Int) (bs : List Bool) : ∀ i, ∀ k ∈ rowB Hs bs i, k < i
  | 0, _, h => (nomatch h)
  | i + 1, k, h => by
    unfold rowB at h
    split at h
    · rcases insN_mem h with rfl | h
      · exact Nat.lt_succ_self _
      · exact Nat.lt_succ_of_lt (rowB_lt Hs bs i k h)
    · exact Nat.lt_succ_of_lt (rowB_lt Hs bs i k h)
theorem getD_lt {ks : List Nat} {n : Nat} (h : ∀ k ∈ ks, k < n) (hn : 0 < n) (j : Nat) : ks.getD j 0 < n := by
  rw [List.getD_eq_getElem?_getD]
  cases e : ks[j]? with
  | none => exact hn
  | some k => exact h k (List.mem_of_getElem? e)
theorem psOf_fst {bs : List Bool} (hbl : bs.length = 11) {i : Nat} (hi : i < 11) : ((psOf bs).getD i (false, "")).1 = bs.getD i false := by
  obtain ⟨hb, e⟩ := psOf_get hbl hi
  rw [List.getD_eq_getElem?_getD, e]
  show bs[i] = bs.getD i false
  rw [List.getD_eq_getElem?_getD, List.getElem?_eq_getElem hb]; rfl
theorem rowF_eq {bs : List Bool} (hbl : bs.length = 11) : ∀ i, i ≤ 11 → rowF (psOf bs) i = rowB (htsB 0 bs) bs i
  | 0, _ => rfl
  | i + 1, hi => by
    have ih := rowF_eq hbl i (by omega)
    have hv : insN (hF (psOf bs)) (rowB (htsB 0 bs) bs i) i = insN (fun k => (htsB 0 bs).getD k 0) (rowB (htsB 0 bs) bs i) i := by
      have hlt := rowB_lt (htsB 0 bs) bs i
      have e1 : (fun j => hF (psOf bs) ((rowB (htsB 0 bs) bs i).getD j 0)) = fun j => (htsB 0 bs).getD ((rowB (htsB 0 bs) bs i).getD j 0) 0 := by
        funext j
        exact hF_eq hbl (getD_lt (fun k hk => by have := hlt k hk; omega) (by omega) j)
      unfold insN
      rw [e1, hF_eq hbl (by omega)]
    rw [rowF, rowB, psOf_fst hbl (by omega), ih, hv]
theorem plainF_eq {bs : List Bool} (hbl : bs.length = 11) : ∀ i, i ≤ 11 → plainF (psOf bs) i = plB (htsB 0 bs) bs i
  | 0, _ => rfl
  | i + 1, hi => by
    rw [plainF, plB, psOf_fst hbl (by omega), plainF_eq hbl i (by omega), hF_eq hbl (by omega)]
theorem heights_eq {bs : List Bool} (hbl : bs.length = 11) : (List.range 11).map (hF (psOf bs)) = htsB 0 bs := by
  refine @Mine.sqz _ ?zmain ?zfin
  case zmain =>
    refine List.ext_getElem (by rw [List.length_map, List.length_range, htsB_len, hbl]) fun i h1 h2 => ?_
    have hi : i < 11 := by simpa using h1
    rw [List.getElem_map, List.getElem_range, hF_eq hbl hi, List.getD_eq_getElem?_getD, List.getElem?_eq_getElem h2]; rfl
  case zfin => run_tac Mine.sq
theorem found_ok {Hs : List Int} {Rs : List Nat} {Ps : List Int} (hR : Rs.length = 6) (hP : Ps = Rs.map fun k => Hs.getD k 0) (hf : ∀ i, i < 11 → fndP Ps i = true) : FoundOK Hs Rs Ps := by
  refine @Mine.sqz _ ?zmain ?zfin
  case zmain =>
    intro i hi
    have h := of_decide_eq_true (hf i hi)
    have hc : ((Rs.filter (fun k => decide (Hs.getD k 0 ≤ -4 + (i : Int)))).length) = (Ps.filter (fun p => decide (p ≤ -4 + (i : Int)))).length := by
      rw [hP, List.filter_map, List.length_map]; rfl
    have hlow : 0 ≤ (-4 + (i : Int)).fmod 3 := by rw [Int.fmod_eq_emod_of_nonneg _ (by decide)]; omega
    rw [hc]
    refine ⟨?_, h.2⟩
    rw [bisR_congr (N := 6) (g := fun i => Ps.getD i 0) (fun j hj => ?_) _ _ _ (by omega)]
    · exact h.1
    · show Hs.getD (Rs.getD j 0) 0 = Ps.getD j 0
      rw [hP, List.getD_eq_getElem?_getD (l := Rs.map _), List.getElem?_map, List.getD_eq_getElem?_getD (l := Rs), List.getElem?_eq_getElem (by omega)]; rfl
  case zfin => run_tac Mine.sq
end Mine

theorem Mine.use_M83 : True := by
  w_top off
  run_tac Mine.use ["linesP", "linesZZ"]
  trivial
namespace Mine
structure PlainOK (bs : List Bool) : Prop where
  len : (rowF (psOf bs) 11).length = 6
  lt : ∀ k ∈ rowF (psOf bs) 11, k < 11
  found : FoundOK ((List.range 11).map (hF (psOf bs))) (rowF (psOf bs) 11) (plainF (psOf bs) 11)
  second : plainF (psOf bs) 11 = (rowF (psOf bs) 11).map (hF (psOf bs))
  cnt : ∀ r, r < 6 → ovr 0 (bs.drop ((rowF (psOf bs) 11).getD r 0 + 1) ++ bs.take ((rowF (psOf bs) 11).getD r 0)) = 5 - r
theorem plain_ok {bs : List Bool} (hbl : bs.length = 11) (hbc : bs.count true = 6) : PlainOK bs := by
  refine @Mine.sqz _ ?zmain ?zfin
  case zmain =>
    have hm := mem_combs bs 6 hbc
    rw [hbl] at hm
    have hc := List.all_eq_true.mp chk_all bs hm
    unfold chk at hc
    simp only [Bool.and_eq_true, beq_iff_eq, List.all_eq_true, List.mem_range] at hc
    obtain ⟨⟨⟨h1, h2⟩, h3⟩, h4⟩ := hc
    have hg : plB (htsB 0 bs) bs 11 ∈ goodP := by simpa using h3
    have hf := List.all_eq_true.mp fnd_all _ hg
    have eR := rowF_eq hbl 11 (Nat.le_refl _)
    have eP := plainF_eq hbl 11 (Nat.le_refl _)
    refine ⟨by rw [eR]; exact h1, rowF_lt _ 11, ?_, ?_, fun r hr => by rw [eR]; exact h4 r hr⟩
    · rw [heights_eq hbl, eR, eP]
      exact found_ok h1 h2 fun i hi => List.all_eq_true.mp hf i (List.mem_range.mpr hi)
    · rw [eR, eP, h2]
      refine List.map_congr_left fun k hk => ?_
      have := rowB_lt _ _ _ k hk
      exact (hF_eq hbl this).symm
  case zfin => run_tac Mine.sq
end Mine

theorem Mine.use_M84 : True := by
  w_top off
  run_tac Mine.use ["linesP", "linesZZ"]
  trivial
namespace Mine
/-- how many steps down end an element that is written -/
noncomputable def dwn : Int → List Bool → Nat
  | _, [] => 0
  | h, true :: r => dwn (h + 1) r
  | h, false :: r => (if 0 < h then 1 else 0) + dwn (h - 1) r
noncomputable def hend : Int → List Bool → Int
  | h, [] => h
  | h, true :: r => hend (h + 1) r
  | h, false :: r => hend (h - 1) r
theorem ovr_dwn : ∀ (bs : List Bool) (h : Int), (ovr h bs : Int) - (dwn h bs : Int) = max (hend h bs) 0 - max h 0
  | [], h => by simp [ovr, dwn, hend]
  | true :: r, h => by
    have ih := ovr_dwn r (h + 1)
    simp only [ovr, dwn, hend]
    split <;> omega
  | false :: r, h => by
    have ih := ovr_dwn r (h - 1)
    simp only [ovr, dwn, hend]
    split <;> omega
theorem hend_eq : ∀ (bs : List Bool) (h : Int), hend h bs = h + 2 * ((bs.count true : Nat) : Int) - ((bs.length : Nat) : Int)
  | [], h => by simp [hend]
  | true :: r, h => by rw [hend, hend_eq r]; simp; omega
  | false :: r, h => by rw [hend, hend_eq r]; simp; omega
theorem floor_end {bs : List Bool} (hbl : bs.length = 11) (hbc : bs.count true = 6) {k : Nat} (hk : k < 11) (hb : bs.getD k false = true) : hend 0 (bs.drop (k + 1) ++ bs.take k) = 0 := by
  refine @Mine.sqz _ ?zmain ?zfin
  case zmain =>
    have hkb : k < bs.length := by omega
    have e : bs = bs.take k ++ (true :: bs.drop (k + 1)) := by
      have h2 : bs[k] = true := by rw [List.getD_eq_getElem?_getD, List.getElem?_eq_getElem hkb] at hb; exact hb
      rw [← h2, ← List.drop_eq_getElem_cons hkb, List.take_append_drop]
    have h3 : (bs.take k).count true + 1 + (bs.drop (k + 1)).count true = 6 := by
      rw [← hbc]
      conv => rhs; rw [e]
      rw [List.count_append, List.count_cons_self]; omega
    rw [hend_eq, List.count_append, List.length_append, List.length_drop, List.length_take]
    omega
  case zfin => run_tac Mine.sq
theorem rowB_up (Hs : List Int) (bs : List Bool) : ∀ i, ∀ k ∈ rowB Hs bs i, bs.getD k false = true
  | 0, _, h => (nomatch h)
  | i + 1, k, h => by
    unfold rowB at h
    split at h
    · next q =>
      rcases insN_mem h with rfl | h
      · exact q
      · exact rowB_up Hs bs i k h
    · exact rowB_up Hs bs i k h
theorem rowF_up' {bs : List Bool} (hbl : bs.length = 11) {k : Nat} (h : k ∈ rowF (psOf bs) 11) : bs.getD k false = true := by
  rw [rowF_eq hbl 11 (Nat.le_refl _)] at h
  exact rowB_up _ _ _ k h
end Mine

theorem Mine.use_M85 : True := by
  w_top off
  run_tac Mine.use ["linesP", "linesZZ"]
  trivial
namespace Mine
theorem str_assoc (a b c : Str) : a ++ b ++ c = a ++ (b ++ c) := by
  show (⟨(a.cps ++ b.cps) ++ c.cps⟩ : Str) = ⟨a.cps ++ (b.cps ++ c.cps)⟩
  rw [Array.append_assoc]
theorem str_empty_app (a : Str) : Str.empty ++ a = a := by
  show (⟨#[] ++ a.cps⟩ : Str) = a
  rw [Array.empty_append]
/-- what a start writes, behind what was written -/
theorem up_txt (t x : Str) : t ++ (Str.ofString "<" ++ Str.ofString "a") ++ (Str.empty ++ Str.ofString " " ++ Str.ofString "k" ++ Str.ofString "=\"" ++ x ++ Str.ofString "\"") ++ Str.ofString ">" = t ++ (("<a k=\"" ++ x) ++ "\">") := by
  refine @Mine.sqz _ ?zmain ?zfin
  case zmain =>
    rw [str_empty_app]
    simp only [str_assoc]
    rw [show (Str.ofString "\"" ++ Str.ofString ">") = Str.ofString "\">" by decide +kernel]
    rw [← str_assoc (Str.ofString "k") (Str.ofString "=\""), show (Str.ofString "k" ++ Str.ofString "=\"") = Str.ofString "k=\"" by decide +kernel]
    rw [← str_assoc (Str.ofString " ") (Str.ofString "k=\""), show (Str.ofString " " ++ Str.ofString "k=\"") = Str.ofString " k=\"" by decide +kernel]
    rw [← str_assoc (Str.ofString "a") (Str.ofString " k=\""), show (Str.ofString "a" ++ Str.ofString " k=\"") = Str.ofString "a k=\"" by decide +kernel]
    rw [← str_assoc (Str.ofString "<") (Str.ofString "a k=\""), show (Str.ofString "<" ++ Str.ofString "a k=\"") = Str.ofString "<a k=\"" by decide +kernel]
  case zfin => run_tac Mine.sq
theorem dn_txt : Str.empty ++ Str.ofString "</" ++ Str.ofString "a" ++ Str.ofString ">" = Str.ofString "</a>" := by decide +kernel
theorem glued_snoc (l : List Str) (y : Str) : Txt.join (Str.ofString "") (l ++ [y]) = Txt.join (Str.ofString "") l ++ y := by
  refine @Mine.sqz _ ?zmain ?zfin
  case zmain =>
    have e0 : (Str.ofString "").cps = #[] := by decide +kernel
    cases l with
    | nil =>
      show (⟨y.cps⟩ : Str) = (⟨#[] ++ y.cps⟩ : Str)
      rw [Array.empty_append]
    | cons x r =>
      show (⟨(r ++ [y]).foldl (fun acc p => acc ++ (Str.ofString "").cps ++ p.cps) x.cps⟩ : Str) = ⟨r.foldl (fun acc p => acc ++ (Str.ofString "").cps ++ p.cps) x.cps ++ y.cps⟩
      rw [List.foldl_append, List.foldl_cons, List.foldl_nil, e0, Array.append_empty]
  case zfin => run_tac Mine.sq
/-- a text joined from pieces of two -/
theorem join_snoc (ps : List (Str × Str)) (b g : Str) : Txt.join (Str.ofString "") ((ps ++ [(b, g)]).map fun p => p.1 ++ p.2) = Txt.join (Str.ofString "") (ps.map fun p => p.1 ++ p.2) ++ (b ++ g) := by
  rw [List.map_append]
  exact glued_snoc _ _
end Mine

theorem Mine.use_M50 : True := by
  w_top off
  run_tac Mine.use ["linesP", "lines", "clines", "clines2", "lines3", "lines4", "lines5", "lines6", "lines8", "linesZZ"]
  trivial
namespace Mine
theorem rows_c {w : World} {A₀ : Around} {base h₀ : Heap} {outer : List Env} {env : Env} {L : Addr} {m : Str → Option Value} {s : Shared} {lo me} {mg mb} {R : Result → Shared → Prop} {d u : Nat} {gd : Option (List Code)}
 {a dx p : Addr} {items : Array Value} {n na : Nat} {ti zt : Tok} {E T : List (Addr × Obj)} {ps : List (Bool × Str)}
 (B : Below A₀ base outer h₀) (F : Fr h₀ L s.heap m) (X : (Mine.hd.heap_39 w.params).In h₀) (N : News h₀ L s.heap ((a, accO dx #[] na) :: (E ++ T))) (T0 : Top topProg lo me mg mb h₀) (hf : env.frame = some L) (hke : env.scope.kind = .function) (hd : d < 310) (hu : u < 100)
 (hE : ∀ p ∈ E, isTabE p.2 = false) (hT : Tabs T) (ha : ∀ p ∈ E, p.1 ≠ a)
 (hdx : (dx, iniD w ti (.int 3 zt)) ∈ E) (hp : (p, W.listOf items n) ∈ E) (hz : items.size ≤ 30) (hps : PathIs E items ps) (hsg : ∀ q ∈ ps, q.2 ∈ signs)
 (h : ∀ t h' tk' g' hl rw pl hls rws pls n2 n3 n4 ri n5 Ei Ti, Fr h₀ L h' m → News h₀ L h' ((t, tupO [.ref hl, .ref rw, .ref pl]) :: (pl, W.listOf pls n2) :: (rw, W.listOf rws n3) :: (hl, W.listOf hls n4) :: (a, accO dx ri n5) :: (Ei ++ Ti)) → (a < hl ∧ hl < rw ∧ rw < pl ∧ pl < t) → (∀ p ∈ E, p ∈ Ei) → (∀ p ∈ Ei, isTabE p.2 = false) → (∀ p ∈ Ei, p.1 ≠ a) → Tabs Ti → ri.size ≤ 30 →
   IntsIn hls ((List.range ps.length).map (hF ps)) → NatsIn rws (rowF ps ps.length) → IntsIn pls (plainF ps ps.length) → (AllBare s.gens → AllBare g') → R (.ok (.ret (.ref t))) (St s h' g' tk'))
 :
 codeAny (model Challenge.rw_if0017_01.row.prog w) (Around.mk none d (some (env :: outer)) gd u) (.call (.ref 289) ⟨[.ref a, .ref p], []⟩) R s := by
  refine @Mine.sqz _ ?zmain ?zfin
  case zmain =>
    revert X; k_fill; intro X
    refine' code_defC ?k1 ?k2 ?k3 ?k4 ?k5 ?kA ?kF ?kK ?k6 ?k7 ?k8 ?k9 ?kB ?kD ?_ ?c2 ?c3 ?c4
    case kA => exact rfl
    case kF => assumption
    case kK => assumption
    case k1 => assumption
    case k2 => assumption
    case k3 => assumption
    case k4 => assumption
    case k5 => assumption
    case k6 => k_is
    case k7 => k_is
    case k8 => k_room
    case k9 => exact BindsTo.of_eq rfl
    case kB => exact rfl
    case kD => decide +kernel
    case c2 => exact rfl
    case c3 => exact rfl
    case c4 => exact rfl
    intro g' L' h' tk' cells' FG' F' N' Y' B' X' T' l1
    have hpT := List.mem_append_left T hp
    have l2 : AllLt (L' + 1) (E ++ T) := allLt_of fun p hp => Nat.lt_succ_of_lt (l1 p (.tail _ hp))
    have l3 : AllLt L' (E ++ T) := allLt_of fun p hp => l1 p (.tail _ hp)
    have l4 : a < L' := ltN (l1 _ (.head _))
    replace l4 := ltN l4
    clear l1
    k_cells Y'
    (try simp only [List.cons_append, List.nil_append] at N')
    (try dsimp only)
    k_steps
    rename_i oc0 dc0 lhs hA1 q1 hA2 oc dc tk1 lr hA3 q2 hA4 tk2 lp hA5 q3 hA6 lh hA7 q4 hA8 F1 N1
    have hel : ∀ z : Addr, AllLt z (E ++ T) → ∀ p ∈ E, p.1 ≠ z := fun z hz p hp => Nat.ne_of_lt (allLt_mem hz p (List.mem_append_left _ hp))
    refine for_list (vs := items) (RowsI ps E T s.gens lh lp lr lhs (L' + 1) a dx oc) rfl F1 N1 ?_ ?_ ?_ ?_
    · rintro i m news g h ⟨Ei, Ti, _, _, _, _, _, _, _, _, _, _, rfl, hEs, _⟩ _ N
      exact N.isList (.tail _ (.tail _ (.tail _ (.tail _ (.tail _ (.tail _ (List.mem_append_left _ (hEs _ hp))))))))
    · exact ⟨E, T, _, _, _, _, _, _, _, _, _, _, rfl, fun _ h => h, hE, hel _ q4.2.2.2.2.2, hel _ q3.2.2.2.2, hel _ q2.2.2.2, hel _ q1.2.2, ha, hT, .refl, ⟨rfl, fun _ _ e => (nomatch e)⟩, ⟨rfl, fun _ _ e => (nomatch e)⟩, ⟨rfl, fun _ _ e => (nomatch e)⟩, ⟨rfl, fun _ _ e => (nomatch e)⟩, fun v hv => absurd hv (by simp), Nat.le_refl _, fun h => h, rfl, rfl, rfl, rfl⟩
    · rintro i v m news g h tk it E' hv ⟨Ei, Ti, n1, n2, n3, n4, n5, hn, pls, rws, hls, ri, rfl, hEs, hEi, e1, e2, e3, e4, e5, hTi, hle, hacc, hI1, hI2, hI3, hnn, hnz, hgb, hm1, hm2, hm3, hm4⟩ F3 N3 di
      have hi : i < ps.length := by
        rw [← hps.1]; exact (Array.getElem?_eq_some_iff.mp hv).1
      have hlen : ps.length ≤ 30 := by rw [← hps.1]; exact hz
      obtain ⟨⟨b, sg⟩, hq⟩ : ∃ q, q = ps[i] := ⟨_, rfl⟩
      have e : ps[i]? = some (b, sg) := by rw [List.getElem?_eq_getElem hi, hq]
      obtain ⟨t, tb, ts, et, ht0⟩ := hps.2 i _ e
      obtain rfl : v = .ref t := Option.some.inj (hv.symm.trans et)
      have ht := List.mem_append_left Ti (hEs _ ht0)
      have hdx2 := List.mem_append_left Ti (hEs _ hdx)
      have hdx3 := hEs _ hdx
      have hs1 : sg ∈ signs := hsg _ (List.mem_of_getElem? e)
      have hri : ri.size = i := by rw [hacc.1, accOf_len (by omega)]
      have hls1 : hls.size = i := by rw [hI1.1, List.length_map, List.length_range]
      have hash := accOf_short hsg (i + 1)
      have hasl := accOf_len (ps := ps) (i := i + 1) (by omega)
      have hsucc := accOf_succ e
      rw [hsucc] at hash hasl
      have hasl2 : (accOf ps i ++ [(blk b, sg)]).length ≤ 100 := by omega
      have i1 : @Ne Nat it lh := Ne.symm (di _ (.head _))
      have i2 : @Ne Nat it lp := Ne.symm (di _ (.tail _ (.head _)))
      have i3 : @Ne Nat it lr := Ne.symm (di _ (.tail _ (.tail _ (.head _))))
      have i4 : @Ne Nat it lhs := Ne.symm (di _ (.tail _ (.tail _ (.tail _ (.head _)))))
      have i5 : @Ne Nat it a := Ne.symm (di _ (.tail _ (.tail _ (.tail _ (.tail _ (.tail _ (.head _)))))))
      have em : m = fun y => if y = Str.ofString "heard" then some (Value.ref lh) else if y = Str.ofString "plain" then some (Value.ref lp) else if y = Str.ofString "row" then some (Value.ref lr) else if y = Str.ofString "ring" then some (Value.ref a) else m y := map4 (by with_reducible assumption) (by with_reducible assumption) (by with_reducible assumption) (by with_reducible assumption)
      rw [em] at F3
      refine wpAny_letOwnedTupleGo_listiter ⟨_, (N3 _ (.head _)).1, rfl, rfl⟩ ?_
      dsimp only [St]
      have e6 : ∀ p ∈ Ei, p.1 ≠ it := fun p hp => di p (.tail _ (.tail _ (.tail _ (.tail _ (.tail _ (.tail _ (List.mem_append_left _ hp)))))))
      have i0 : @Ne Nat it (L' + 1) := Ne.symm (di _ (.tail _ (.tail _ (.tail _ (.tail _ (.head _))))))
      cases b
      · change (t, tupO [.str (Str.ofString "") tb, .str sg ts]) ∈ Ei ++ Ti at ht
        change ∀ p ∈ accOf ps i ++ [(Str.ofString "", sg)], _ at hash
        change (accOf ps i ++ [(Str.ofString "", sg)]).length ≤ 100 at hasl2
        change accOf ps (i + 1) = accOf ps i ++ [(Str.ofString "", sg)] at hsucc
        have hw := weight_short hash
        k_steps
        rename_i t1 b1 b2 lt1 b3 b4 T1 b5 gg b6 b7 hT1 hle1 hgg b8 b9 b10 b11 F9 N9 b12
        exact rows_end F9 N9 hEs hEi e1 e2 e3 e4 e5 e6 i0 i1 i2 i3 i4 i5 ⟨lt1.1, lt1.2.1, lt1.2.2.1, lt1.2.2.2.1, lt1.2.2.2.2.1, lt1.2.2.2.2.2.2.1⟩ hT1 (hle.trans hle1) hacc e (ints_push hI1 (rows_hx hsucc hri)) (rowF_dn e ▸ hI2) (plainF_dn e ▸ hI3) (none_push hnn) (by simp only [Array.size_push]; omega) (fun hb => hgg (hgb hb)) rfl rfl rfl rfl
      · change (t, tupO [.str (Str.ofString " ") tb, .str sg ts]) ∈ Ei ++ Ti at ht
        change ∀ p ∈ accOf ps i ++ [(Str.ofString " ", sg)], _ at hash
        change (accOf ps i ++ [(Str.ofString " ", sg)]).length ≤ 100 at hasl2
        change accOf ps (i + 1) = accOf ps i ++ [(Str.ofString " ", sg)] at hsucc
        have hdm : ∀ k ∈ rowF ps i, k < i + 1 := fun k hk => Nat.lt_succ_of_lt (rowF_lt ps i k hk)
        have hrl := rowF_len ps i
        have hpl := plainF_len ps i
        have hw := weight_short hash
        k_steps
        rename_i t1 b1 b2 lt1 b3 b4 T1 b5 gg b6 b7 hT1 hle1 hgg b8 b9 b10 b11 b12 b13 f1 c1 oc1 ct1 b14 b15 T2 hT2 hle2 hci lt2 b17 b18 b19 b20 b21 b22 b23 b24 b25 F9 N9
        exact rows_end F9 (News.tail' N9) hEs hEi e1 e2 e3 e4 e5 e6 i0 i1 i2 i3 i4 i5 ⟨lt1.1, lt1.2.1, lt1.2.2.1, lt1.2.2.2.1, lt1.2.2.2.2.1, lt1.2.2.2.2.2.2.1⟩ hT2 (hle.trans (hle1.trans hle2)) hacc e (ints_push hI1 (rows_hx hsucc hri)) (nats_up hI2 e) (ints_up hI3 (rows_hx hsucc hri) e) (none_push (none_push (none_push hnn))) (by simp only [Array.size_push]; omega) (fun hb => hgg (hgb hb)) rfl rfl rfl rfl
    · rintro m news g hh tk ⟨Ei, Ti, n1, n2, n3, n4, n5, hn, pls, rws, hls, ri, rfl, hEs, hEi, e1, e2, e3, e4, e5, hTi, hle, hacc, hI1, hI2, hI3, hnn, hnz, hgb, hm1, hm2, hm3, hm4⟩ F3 N3
      have em : m = fun y => if y = Str.ofString "heard" then some (Value.ref lh) else if y = Str.ofString "plain" then some (Value.ref lp) else if y = Str.ofString "row" then some (Value.ref lr) else if y = Str.ofString "ring" then some (Value.ref a) else m y := map4 (by with_reducible assumption) (by with_reducible assumption) (by with_reducible assumption) (by with_reducible assumption)
      rw [em] at F3
      dsimp only [St]
      have hps1 := hps.1
      have hhz : hn.size ≤ 100 := by omega
      k_steps
      rename_i D1 hA tk1' o1 lx hB lt1 D2 hC F9 N9 lt2 kF kN Tc kX
      rw [hps1] at hI1 hI2 hI3
      refine h D2 _ _ _ lhs lr lp hls rws pls n2 n3 n4 ri n5 Ei Ti kF (news_sub kN fun p hp => ?_) ⟨q1.2.1, q2.1, q3.1, lt2.2.2.2.1⟩ hEs hEi e5 hTi ?_ hI1 hI2 hI3 hgb
      · simp only [List.mem_cons] at hp ⊢
        rcases hp with h | h | h | h | h | h <;> simp [h]
      · rw [hacc.1, accOf_len (by omega)]; omega
  case zfin => run_tac Mine.sq
end Mine

theorem Mine.use_M70 : True := by
  w_top off
  run_tac Mine.use ["linesP", "linesZZ"]
  trivial
namespace Mine
section
variable {prog : Program} {w : World} {A : Around} {E : Value → Shared → Prop} {s : Shared}
/-- the table of a set of one text -/
noncomputable abbrev oneTab (led : Bool) (j : Nat) : SetTable := { mask := 7, place := #[j], dummies := #[], finger := 0, led := led, moves := 0, plain := false }
noncomputable abbrev setO (es : Array (Int × Value)) (ep : Nat) (t : SetTable) : Obj := { cls := .type "set", dict := none, data := .set es ep t }
noncomputable abbrev ledOf (w : World) : Bool := !w.params.followText "set-order"
theorem new_set_raw {Q : Value → Shared → Prop} (h : Q (.ref s.heap.objs.size) { s with heap := s.heap.push (setO #[] 0 (.fresh 0 0 (ledOf w))) }) : wpAny (model prog w) A (newSet (.type "set")) Q E s := by
  unfold newSet setsByText
  refine wpAny_bind (wpAny_bind (wpAny_askSetting (wpAny_pure ?_)))
  dsimp only
  simp only [newObj]
  exact wpAny_bind (wpAny_alloc (wpAny_pure h))
theorem layNew_fresh (led : Bool) (h : Int) (x : Value) : ∃ j, layNew (.fresh 0 0 led) #[] h x = (#[(h, x)], { oneTab led j with plain := true }, false, false) := ⟨SetTable.bits h % 8, rfl⟩
theorem layNew_plain {t : SetTable} (es : Array (Int × Value)) (h : Int) (x : Value) (hp : t.plain = false) : (layNew t es h x).2.1.plain = false := by
  unfold layNew
  split
  · rename_i slot wd _
    have h1 : (t.put slot).1.plain = false := hp
    dsimp only
    unfold SetTable.orStandIn
    split
    · exact h1
    · rfl
  · rfl
theorem relaid_plain {t t' : SetTable} {hs : Array Int} {n : Nat} {o : Array Nat} (hp : t.plain = false) (h : t.relaid hs n = some (t', o)) : t'.plain = false := by
  refine @Mine.sqz _ ?zmain ?zfin
  case zmain =>
    unfold SetTable.relaid SetTable.laid at h
    cases e : SetTable.layClean (SetTable.sizeAbove n - 1) hs with
    | none => rw [e] at h; cases h
    | some ow =>
      rw [e] at h
      have h2 := congrArg (fun q => q.map (fun r => r.1.plain)) h
      simp only [Option.map_some] at h2
      have h3 : some t.plain = some t'.plain := h2
      rw [hp] at h3
      exact (Option.some.inj h3).symm
  case zfin => run_tac Mine.sq
theorem relayAll_plain {t : SetTable} (es : Array (Int × Value)) (n : Nat) (hp : t.plain = false) : (relayAll t es n).2.1.plain = false := by
  unfold relayAll
  split
  · rename_i t' order e
    dsimp only
    split
    · exact relaid_plain hp e
    · rfl
  · rfl
theorem add_first {a : Addr} {x : Str} {t : Tok} {led : Bool} {Q : Bool → Shared → Prop} (ho : s.heap.get? a = some (setO #[] 0 (.fresh 0 0 led)))
    (h : ∀ j h', Heap.SameBut a s.heap h' → h'.get? a = some (setO #[((strKind prog w).hash x, .str x t)] 1 (oneTab led j)) → Q true { s with heap := h', toks := s.toks + 1 }) :
    wpAny (model prog w) A (setAdd a (.str x t)) Q E s := by
  refine @Mine.sqz _ ?zmain ?zfin
  case zmain =>
    unfold setAdd
    refine wpAny_holding (wpAny_bind ((strKind prog w).pyHash (strKind_is _ _ _ _) ?_))
    unfold setAddHashed setAddHashedIn
    have hf : (SetTable.fresh 0 0 led).fits (#[] : Array (Int × Value)).size = true := rfl
    refine wpAny_holding (wpAny_bind (wpAny_setState_of (s := { s with toks := s.toks + 1 }) ho rfl hf ?_))
    dsimp only
    rw [byScan_of (knd := strKind prog w) rfl (by decide) (fun e he => by simp at he)]
    simp only [↓reduceIte]
    unfold setAddByScan
    refine wpAny_bind ?_
    refine wpAny_bind (wpAny_rule ?_)
    refine wpAny_bind (wpAny_setScan_of (s := { s with toks := s.toks + 1 }) (strKind_is _ _ _ _) ho rfl hf (fun e he => by simp at he) ?_)
    dsimp only
    obtain ⟨j, ej⟩ := layNew_fresh led ((strKind prog w).hash x) (.str x t)
    have e0 : List.findIdx? (fun e : Int × Value => (strKind prog w).is x e.2) (#[] : Array (Int × Value)).toList = none := rfl
    rw [e0]
    dsimp only
    rw [ej]
    dsimp only
    refine wpAny_bind (wpAny_pure ?_)
    simp only [↓reduceIte]
    refine wpAny_bind ?_
    rw [hashByValue_scannable 8 rfl]
    refine wpAny_pure ?_
    refine wpAny_bind (wpAny_storeSet_of (s := { s with toks := s.toks + 1 }) ho rfl ?_ (by show 1 ≤ _; rw [sizeLine_eq]; omega))
    have hg := (SetOf_store (knd := strKind prog w) (t' := oneTab led j) (es' := #[((strKind prog w).hash x, .str x t)]) (S' := fun k => decide (k = x)) ho ⟨rfl, rfl, rfl⟩ rfl (fun e he => by
      have : e = ((strKind prog w).hash x, .str x t) := by simpa using he
      subst this; exact ⟨⟨x, strKind_is _ _ _ _, rfl⟩, rfl⟩) (fun k => by
        constructor
        · intro hk
          have : k = x := by simpa using hk
          subst this
          exact ⟨((strKind prog w).hash k, .str k t), by simp, strKind_is _ _ _ _⟩
        · rintro ⟨e, he, hk⟩
          have : e = ((strKind prog w).hash x, .str x t) := by simpa using he
          subst this
          have := (strKind prog w).inj _ _ _ hk (strKind_is _ _ _ _)
          simpa using this) (show 1 < 4096 by omega) rfl).1
    have key := h j _ (Heap.SameBut.update s.heap a (Obj.putSet #[((strKind prog w).hash x, .str x t)] (oneTab led j))) hg
    refine wpAny_ite_split (fun hc => absurd (show false = true from hc) Bool.false_ne_true) (fun _ => ?_)
    exact wpAny_pure (wpAny_pure key)
  case zfin => run_tac Mine.sq
end
end Mine

theorem Mine.use_M70b : True := by
  w_top off
  run_tac Mine.use ["linesP", "linesZZ"]
  trivial
namespace Mine
section
variable {prog : Program} {w : World} {A : Around} {E : Value → Shared → Prop} {s : Shared}
theorem store_get {h : Heap} {a : Addr} {es es' : Array (Int × Value)} {ep : Nat} {t t' : SetTable} (ho : h.get? a = some (setO es ep t)) : (h.update a (Obj.putSet es' t')).get? a = some (setO es' (ep + 1) t') := by
  have := Heap.get?_update_self (Obj.putSet es' t') ho (by rw [putSet_of (o := setO es ep t) es' t' rfl]; rfl)
  rw [putSet_of (o := setO es ep t) es' t' rfl] at this; exact this
theorem gave_wp {b : Bool} {Q : Unit → Shared → Prop} (h : Q () s) : wpAny (model prog w) A (match b with | true => rule "set.scan.the-table-gave-way" | false => pure ()) Q E s := by
  cases b
  · exact wpAny_pure h
  · exact wpAny_rule h
/-- a second text joins a set of one -/
theorem add_more {a : Addr} {x k : Str} {t t1 : Tok} {ep j : Nat} {led : Bool} {Q : Bool → Shared → Prop} (ho : s.heap.get? a = some (setO #[((strKind prog w).hash x, .str x t)] ep (oneTab led j))) (hne : x ≠ k)
    (h : ∀ h' es ep' t', Heap.SameBut a s.heap h' → h'.get? a = some (setO es ep' t') → List.Perm es.toList [((strKind prog w).hash x, .str x t), ((strKind prog w).hash k, .str k t1)] → t'.fits es.size = true → t'.plain = false → Q true { s with heap := h' }) :
    wpAny (model prog w) A (setAddHashed a (.str k t1) ((strKind prog w).hash k)) Q E s := by
  refine @Mine.sqz _ ?zmain ?zfin
  case zmain =>
    have hf : (oneTab led j).fits (#[((strKind prog w).hash x, Value.str x t)] : Array (Int × Value)).size = true := rfl
    have hel : ElemsOf (strKind prog w) (#[((strKind prog w).hash x, Value.str x t)] : Array (Int × Value)).toList := fun e he => by
      have : e = ((strKind prog w).hash x, .str x t) := by simpa using he
      subst this; exact ⟨⟨x, strKind_is _ _ _ _, rfl⟩, rfl⟩
    unfold setAddHashed setAddHashedIn
    refine wpAny_holding (wpAny_bind (wpAny_setState_of ho rfl hf ?_))
    dsimp only
    have hbs : byScan (.str k t1) #[((strKind prog w).hash x, Value.str x t)] = true := byScan_of (knd := strKind prog w) rfl (show 1 < 4096 by omega) hel
    rw [hbs]
    simp only [↓reduceIte]
    unfold setAddByScan
    refine wpAny_bind ?_
    refine wpAny_bind (wpAny_rule ?_)
    refine wpAny_bind (wpAny_setScan_of (strKind_is _ _ _ _) ho rfl hf hel ?_)
    have e0 : List.findIdx? (fun e : Int × Value => (strKind prog w).is k e.2) (#[((strKind prog w).hash x, Value.str x t)] : Array (Int × Value)).toList = none := by
      have h1 : (strKind prog w).is k (.str x t) = false := by
        cases hq : (strKind prog w).is k (.str x t) with
        | false => rfl
        | true => exact absurd ((strKind prog w).inj _ _ _ (strKind_is _ _ _ _) hq) hne
      simp [h1]
    rw [e0]
    dsimp only
    have hperm := layNew_perm (oneTab led j) #[((strKind prog w).hash x, Value.str x t)] ((strKind prog w).hash k) (.str k t1)
    have hfits := layNew_fits (oneTab led j) #[((strKind prog w).hash x, Value.str x t)] ((strKind prog w).hash k) (.str k t1)
    have hpl := layNew_plain (t := oneTab led j) #[((strKind prog w).hash x, Value.str x t)] ((strKind prog w).hash k) (.str k t1) rfl
    generalize hL : layNew (oneTab led j) #[((strKind prog w).hash x, Value.str x t)] ((strKind prog w).hash k) (.str k t1) = L at hperm hfits hpl ⊢
    obtain ⟨es1, t2, wasDummy, gave⟩ := L
    dsimp only at hperm hfits hpl ⊢
    have hperm' : List.Perm es1.toList [((strKind prog w).hash x, .str x t), ((strKind prog w).hash k, .str k t1)] := hperm
    have hsz : es1.size = 2 := by rw [← Array.length_toList, hperm'.length_eq]; rfl
    refine wpAny_bind (gave_wp ?_)
    have tail : wpAny (model prog w) A (do
          storeSet a es1 t2
          if (!wasDummy && t2.tooFull) = true then do
              (fun b : Bool => match b with | true => rule "set.scan.the-table-gave-way" | false => pure ()) (relayAll t2 es1 (SetTable.grown es1.size)).2.2
              storeSet a (relayAll t2 es1 (SetTable.grown es1.size)).1 (relayAll t2 es1 (SetTable.grown es1.size)).2.1
              pure (some true)
            else pure (some true)) (fun r s' => r = some true ∧ Q true s') E s := by
      refine wpAny_bind (wpAny_storeSet_of ho rfl ?_ (by rw [hsz, sizeLine_eq]; omega))
      have hg := store_get (es' := es1) (t' := t2) ho
      have hsb1 := Heap.SameBut.update s.heap a (Obj.putSet es1 t2)
      split
      · have hp := relayAll_perm t2 es1 (SetTable.grown es1.size)
        have hfr := relayAll_fits t2 es1 (SetTable.grown es1.size)
        have hpr := relayAll_plain es1 (SetTable.grown es1.size) hpl
        generalize hRl : relayAll t2 es1 (SetTable.grown es1.size) = Rl at hp hfr hpr ⊢
        obtain ⟨es2, t3, gave2⟩ := Rl
        dsimp only at hp hfr hpr ⊢
        have hsz2 : es2.size = es1.size := by rw [← Array.length_toList, hp.length_eq, Array.length_toList]
        refine wpAny_bind (gave_wp ?_)
        refine wpAny_bind (wpAny_storeSet_of hg rfl ?_ (by rw [hsz2, hsz, sizeLine_eq]; omega))
        exact wpAny_pure ⟨rfl, h _ es2 _ t3 (hsb1.trans (Heap.SameBut.update _ a _)) (store_get hg) (hp.trans hperm') hfr hpr⟩
      · exact wpAny_pure ⟨rfl, h _ es1 _ t2 hsb1 hg hperm' hfits hpl⟩
    have fin : ∀ (r : Option Bool) (s' : Shared), r = some true ∧ Q true s' → wpAny (model prog w) A (match r with | some added => pure added | none => setAddHashedIn a (.str k t1) ((strKind prog w).hash k) 99999) Q E s' := by
      rintro r s' ⟨rfl, hq⟩
      exact wpAny_pure hq
    simp only [hpl, Bool.false_eq_true, ↓reduceIte]
    refine wpAny_bind (wpAny_pure ?_)
    simp only [↓reduceIte]
    exact wpAny_mono tail (fun r s' hr => fin r s' hr) fun _ _ x => x
  case zfin => run_tac Mine.sq
end
end Mine

theorem Mine.use_M70c : True := by
  w_top off
  run_tac Mine.use ["linesP", "linesZZ"]
  trivial
namespace Mine
section
variable {prog : Program} {w : World} {A : Around} {E : Value → Shared → Prop} {s : Shared} {R : Result → Shared → Prop} {I : Addr} {fp wr : List Addr} {G : Array GenState → Array GenState → Prop} {P : Nat → Value → Prop} {Sta : Nat → Shared → Prop}
/-- what a set of one text and a second one come to -/
noncomputable def TwoOf (w : World) (prog : Program) (x k : Str) (t t1 : Tok) (o : Obj) : Prop :=
  ∃ es ep t', o = setO es ep t' ∧ List.Perm es.toList [((strKind prog w).hash x, .str x t), ((strKind prog w).hash k, .str k t1)] ∧ t'.fits es.size = true ∧ t'.plain = false
theorem loop_none (W : WalksS prog w A.in1 I fp wr G 0 P Sta) (S : Addr) {s : Shared} (hst : Sta 0 s) (hR : ∀ s', Moved wr G s s' → R (.ok (.ret .none)) s') :
    codeAny (model prog w) A (.builtin "set.update.loop" ⟨[.ref S, .ref I], []⟩) R s := by
  refine @Mine.sqz _ ?zmain ?zfin
  case zmain =>
    refine codeAny_builtin PyProof.Rows.F.entry_set_update_loop ?_
    rw [Around.under_plainId PyProof.Rows.F.plain_set_update_loop _]
    show wpAny _ A.in1 (pyNext (.ref I) >>= _) _ _ _
    refine wpAny_bind (W.done _ _ _ hst fun s3 hm3 => ?_)
    show wpAny _ A.in1 (ret Value.none) _ _ s3
    exact wpAny_pure (hR s3 hm3)
  case zfin => run_tac Mine.sq
theorem loop_one (W : WalksS prog w A.in1 I fp wr G 1 P Sta) (S : Addr) (hSf : S ∉ fp) {x k : Str} {t : Tok} {ep j : Nat} {led : Bool} (hne : x ≠ k) (hval : ∀ v, P 0 v → ∃ t1, v = .str k t1) {s : Shared} (hst : Sta 0 s) (hS : s.heap.get? S = some (setO #[((strKind prog w).hash x, .str x t)] ep (oneTab led j)))
    (hR : ∀ s' t1 o, Moved (S :: wr) G s s' → s'.heap.get? S = some o → TwoOf w prog x k t t1 o → R (.ok (.ret .none)) s') :
    codeAny (model prog w) A (.builtin "set.update.loop" ⟨[.ref S, .ref I], []⟩) R s := by
  refine @Mine.sqz _ ?zmain ?zfin
  case zmain =>
    have hSw : S ∉ wr := fun h => hSf (W.sub _ h)
    have hsub : ∀ b ∈ wr, b ∈ S :: wr := fun b hb => List.mem_cons_of_mem _ hb
    refine codeAny_builtin PyProof.Rows.F.entry_set_update_loop ?_
    rw [Around.under_plainId PyProof.Rows.F.plain_set_update_loop _]
    show wpAny _ A.in1 (pyNext (.ref I) >>= _) _ _ s
    refine wpAny_bind (W.item 0 s _ _ (Nat.lt_succ_self 0) hst fun v s' hP hst' hm => ?_)
    obtain ⟨t1, rfl⟩ := hval v hP
    have hS' := hm.heap S _ hSw hS
    show wpAny _ A.in1 (holding [Value.str k t1] (setAdd S (.str k t1)) >>= _) _ _ s'
    refine wpAny_bind (wpAny_holding ?_)
    unfold setAdd
    refine wpAny_holding ?_
    refine wpAny_bind ((strKind prog w).pyHash (k := k) (strKind_is _ _ _ _) ?_)
    refine add_more (s := { s' with toks := s'.toks + 1 }) hS' hne fun h' es ep' t' hsb hg hp hf hpl => ?_
    refine wpAny_pure ⟨plainId_quiet PyProof.Rows.F.plain_set_update_loop _, ?_⟩
    have hst2 := W.frame 1 s' h' (s'.toks + 1) hst' (Nat.le_succ _) fun b hb o e => by
      rw [hsb.2 b (fun h : b = S => hSf (by rw [← h]; exact hb))]; exact e
    have hm2 : Moved (S :: wr) G s { s' with heap := h', toks := s'.toks + 1 } := (hm.mono hsub).then_heap (Nat.le_succ _) fun b o hb e => by
      rw [hsb.2 b (fun h : b = S => hb (by rw [h]; exact List.mem_cons_self))]; exact e
    refine loop_none (P := fun i => P (i + 1)) (s := { s' with heap := h', toks := s'.toks + 1 }) ⟨W.sub, W.grefl, W.gtrans, fun i => W.frame (i + 1), fun i s Q E hi => absurd hi (Nat.not_lt_zero _), W.done, fun i => W.self (i + 1)⟩ S hst2 fun s3 hm3 => ?_
    exact hR s3 t1 _ (Moved.trans W.gtrans hm2 (hm3.mono hsub)) (hm3.heap S _ hSw hg) ⟨es, ep', t', rfl, hp, hf, hpl⟩
  case zfin => run_tac Mine.sq
theorem sub_dict_set : isSubtype (.type "dict") (.type "set") = pure false := by rw [isSubtype_type]; kernel_rfl
theorem sub_dict_frozen : isSubtype (.type "dict") (.type "frozenset") = pure false := by rw [isSubtype_type]; kernel_rfl
theorem room_none {S : Addr} {hx : Int} {v : Value} {ep j n : Nat} {led : Bool} {Q : Unit → Shared → Prop} (hS : s.heap.get? S = some (setO #[(hx, v)] ep (oneTab led j))) (hn : n ≤ 1) (h : Q () s) : wpAny (model prog w) A (setRoomFor S n) Q E s := by
  refine @Mine.sqz _ ?zmain ?zfin
  case zmain =>
    unfold setRoomFor
    refine wpAny_bind (wpAny_setState_of hS rfl rfl ?_)
    have : (oneTab led j).roomFor n = none := by
      rcases Nat.le_one_iff_eq_zero_or_eq_one.mp hn with rfl | rfl
      · rfl
      · rfl
    dsimp only
    rw [this]
    exact wpAny_pure h
  case zfin => run_tac Mine.sq
/-- the star over an empty dict -/
theorem star_none {S d : Addr} {x : Str} {t : Tok} {ep j : Nat} {led : Bool} {Q : Unit → Shared → Prop} (hh : A.handled = none) (lo : (d == sysModules) = false)
    (hS : s.heap.get? S = some (setO #[((strKind prog w).hash x, .str x t)] ep (oneTab led j))) (hd : s.heap.DictOf (strKind prog w) d [])
    (h : ∀ h' tk, (∀ b o, s.heap.get? b = some o → h'.get? b = some o) → Q () { s with heap := h', toks := tk }) :
    wpAny (model prog w) A (setDisplayStar S (.ref d)) Q E s := by
  refine @Mine.sqz _ ?zmain ?zfin
  case zmain =>
    obtain ⟨epd, hat⟩ := hd.dictAt
    have hT := hd.typeIs
    obtain ⟨o, es, ho, hex, hdat, hk, hp, hn⟩ := id hat
    have hes : es.size = 0 := by rw [← Array.length_toList, hp.length]; rfl
    have hgen := h s.heap s.toks (fun _ _ e => e)
    unfold setDisplayStar
    dsimp only
    refine wpAny_bind (wpAny_isInstance (T := "dict") (b := false) hT sub_dict_set ?_)
    simp only [Bool.false_eq_true, ↓reduceIte]
    refine wpAny_bind (wpAny_isInstance (T := "dict") (b := false) hT sub_dict_frozen ?_)
    refine wpAny_bind (wpAny_askSetting ?_)
    have tail : wpAny (model prog w) A (do
        let it ← pyIter (.ref d)
        let _ ← runValue (.builtin "set.update.loop" ⟨[.ref S, it], []⟩)
        pure ()) Q E s := by
      refine wpAny_bind (wpAny_pyIter_dict lo hat ?_)
      refine wpAny_bind (wpAny_runValue ?_)
      have hlt := hat.lt_size
      refine loop_none ((Walks.dictKeys (K := Str) (knd := strKind prog w) (A := A.in1) (by simp [hh]) s.heap.objs.size d (Nat.ne_of_lt hlt) [] epd).toS) S ⟨⟨_, Heap.get?_push_size _ rfl, rfl, rfl⟩, hat.push _⟩ fun s' hm => ?_
      obtain ⟨h', g', d', tk', os'⟩ := s'
      have eg : g' = s.gens := hm.gens
      have ed : d' = s.drawn := hm.drawn
      have eo : os' = s.os := hm.os
      subst eg; subst ed; subst eo
      refine wpAny_pure (h h' tk' fun b o hb => ?_)
      exact hm.heap b o (by rw [List.mem_singleton]; exact Nat.ne_of_lt (Heap.lt_size hb)) (Heap.get?_push_of_some _ hb)
    cases hb : (model prog w).w.params.followText "set-display-star-reads-storage" with
    | true =>
      simp only [↓reduceIte]
      exact tail
    | false =>
      simp only [↓reduceIte, Bool.false_eq_true]
      refine wpAny_bind (wpAny_typeOf hT ?_)
      simp only [beq_self_eq_true, ↓reduceIte]
      refine wpAny_bind (wpAny_rule ?_)
      rw [lo]
      simp only [Bool.false_eq_true, ↓reduceIte]
      refine wpAny_bind (wpAny_dictEpoch ho hdat ?_)
      refine wpAny_bind (wpAny_dictEntries ho hdat ?_)
      refine wpAny_bind (room_none hS (by rw [hes]; omega) ?_)
      rw [hes, Std.Legacy.Range.forIn_eq_forIn_range']
      exact wpAny_bind (wpAny_pure (wpAny_pure hgen))
  case zfin => run_tac Mine.sq
/-- the star over a dict of one key -/
theorem star_one {S d : Addr} {x k : Str} {t : Tok} {v : Value} {ep j : Nat} {led : Bool} {Q : Unit → Shared → Prop} (hh : A.handled = none) (lo : (d == sysModules) = false) (hne : x ≠ k)
    (hS : s.heap.get? S = some (setO #[((strKind prog w).hash x, .str x t)] ep (oneTab led j))) (hd : s.heap.DictOf (strKind prog w) d [(k, v)])
    (h : ∀ h' tk t1 o, (∀ b ob, b ≠ S → s.heap.get? b = some ob → h'.get? b = some ob) → h'.get? S = some o → TwoOf w prog x k t t1 o → Q () { s with heap := h', toks := tk }) :
    wpAny (model prog w) A (setDisplayStar S (.ref d)) Q E s := by
  refine @Mine.sqz _ ?zmain ?zfin
  case zmain =>
    obtain ⟨epd, hat⟩ := hd.dictAt
    have hT := hd.typeIs
    obtain ⟨o, es, ho, hex, hdat, hk, hp, hn⟩ := id hat
    have hes : es.size = 1 := by rw [← Array.length_toList, hp.length]; rfl
    have hdS : d ≠ S := fun e => by
      rw [e, hS] at ho
      have e2 := Option.some.inj ho
      have e3 := hex.1
      rw [← e2] at e3
      exact absurd (Value.type.inj e3) (by decide)
    unfold setDisplayStar
    dsimp only
    refine wpAny_bind (wpAny_isInstance (T := "dict") (b := false) hT sub_dict_set ?_)
    simp only [Bool.false_eq_true, ↓reduceIte]
    refine wpAny_bind (wpAny_isInstance (T := "dict") (b := false) hT sub_dict_frozen ?_)
    refine wpAny_bind (wpAny_askSetting ?_)
    have tail : wpAny (model prog w) A (do
        let it ← pyIter (.ref d)
        let _ ← runValue (.builtin "set.update.loop" ⟨[.ref S, it], []⟩)
        pure ()) Q E s := by
      refine wpAny_bind (wpAny_pyIter_dict lo hat ?_)
      refine wpAny_bind (wpAny_runValue ?_)
      have hlt := hat.lt_size
      have hSlt := Heap.lt_size hS
      refine loop_one ((Walks.dictKeys (K := Str) (knd := strKind prog w) (A := A.in1) (by simp [hh]) s.heap.objs.size d (Nat.ne_of_lt hlt) [(k, v)] epd).toS) S ?hf (x := x) (t := t) (ep := ep) (j := j) (led := led) hne ?hv ⟨⟨_, Heap.get?_push_size _ rfl, rfl, rfl⟩, hat.push _⟩ (Heap.get?_push_of_some _ hS) fun s' t1 o2 hm hg htw => ?_
      case hf =>
        simp only [List.mem_cons, List.mem_singleton, List.not_mem_nil, or_false, not_or]
        exact ⟨Nat.ne_of_lt hSlt, Ne.symm hdS⟩
      case hv =>
        rintro u ⟨k', x', e1, e2⟩
        have e3 : (k, v) = (k', x') := Option.some.inj e1
        cases e3
        exact Value.isStrOf_shape e2
      obtain ⟨h', g', d', tk', os'⟩ := s'
      have eg : g' = s.gens := hm.gens
      have ed : d' = s.drawn := hm.drawn
      have eo : os' = s.os := hm.os
      subst eg; subst ed; subst eo
      refine wpAny_pure (h h' tk' t1 o2 (fun b ob hne' hb => ?_) hg htw)
      refine hm.heap b ob ?_ (Heap.get?_push_of_some _ hb)
      simp only [List.mem_cons, List.mem_singleton, List.not_mem_nil, or_false, not_or]
      exact ⟨hne', Nat.ne_of_lt (Heap.lt_size hb)⟩
    cases hb : (model prog w).w.params.followText "set-display-star-reads-storage" with
    | true =>
      simp only [↓reduceIte]
      exact tail
    | false =>
      simp only [↓reduceIte, Bool.false_eq_true]
      refine wpAny_bind (wpAny_typeOf hT ?_)
      simp only [beq_self_eq_true, ↓reduceIte]
      refine wpAny_bind (wpAny_rule ?_)
      rw [lo]
      simp only [Bool.false_eq_true, ↓reduceIte]
      refine wpAny_bind (wpAny_dictEpoch ho hdat ?_)
      refine wpAny_bind (wpAny_dictEntries ho hdat ?_)
      refine wpAny_bind (room_none hS (by rw [hes]; omega) ?_)
      rw [hes, Std.Legacy.Range.forIn_eq_forIn_range']
      obtain ⟨e, rfl⟩ : ∃ e, es = #[e] := Array.size_eq_one_iff.mp hes
      have hke : (strKind prog w).is k e.key = true := by cases hp with | cons h1 _ _ => exact h1
      have hhe : e.hash = (strKind prog w).hash k := by
        obtain ⟨k', h1, h2⟩ := hk e (by simp)
        rw [h2, (strKind prog w).inj _ _ _ hke h1]
      obtain ⟨t1, htk⟩ := Value.isStrOf_shape hke
      show wpAny _ _ (forIn [0] _ _ >>= _) _ _ _
      rw [List.forIn_cons]
      refine wpAny_bind (wpAny_bind (wpAny_bind (wpAny_dictEntries ho hdat ?_)))
      simp only [List.getElem?_toArray, List.getElem?_cons_zero]
      refine wpAny_bind (wpAny_holding ?_)
      rw [htk, hhe]
      refine wpAny_bind (add_more hS hne fun h' es' ep' t' hsb hg hpm hfit hpl => ?_)
      refine wpAny_pure ?_
      have ho' : h'.get? d = some o := by rw [hsb.2 d hdS]; exact ho
      refine wpAny_bind (wpAny_dictEpoch ho' hdat ?_)
      simp only [bne_self_eq_false, Bool.false_eq_true, ↓reduceIte]
      refine wpAny_pure ?_
      dsimp only
      rw [List.forIn_nil]
      refine wpAny_pure (wpAny_pure ?_)
      exact h h' s.toks t1 _ (fun b ob hb hb2 => by rw [hsb.2 b hb]; exact hb2) hg ⟨es', ep', t', rfl, hpm, hfit, hpl⟩
  case zfin => run_tac Mine.sq
end
end Mine

theorem Mine.use_M70d : True := by
  w_top off
  run_tac Mine.use ["linesP", "linesZZ"]
  trivial
namespace Mine
theorem owner_seti : Manifest.owners.lookup (String.ofList ['r', 'o', 't', 'a', 'r', 'e', 't', 'i', '_', 't', 'e', 's'].reverse) = some Manifest.sig_set_iterator := by kernel_rfl
theorem slot_seti_next : Slot "set_iterator" "__next__" "set_iterator.__next__" :=
  .of (owner := "set_iterator") (n := "__next__") (by rw [typeLookup_type, builtinLookup_eq_fast]; kernel_rfl) (by decide +kernel) (by decide +kernel) (by decide +kernel)
    (by first | exact .inl (by decide +kernel) | exact .inr (by decide +kernel)) (by rw [isSubtype_type]; kernel_rfl)
theorem entry_seti_next : entryFor table "set_iterator.__next__" = some Builtin.«set_iterator.__next__» := entryFor_of_tree (by kernel_rfl)
theorem args_seti_next (a : Value) : argsOk "set_iterator.__next__" ⟨[a], []⟩ := by
  refine @Mine.sqz _ ?zmain ?zfin
  case zmain =>
    unfold argsOk; rw [signature?_of (id := "set_iterator.__next__") (n := ['_', '_', 't', 'x', 'e', 'n', '_', '_']) (o := ['r', 'o', 't', 'a', 'r', 'e', 't', 'i', '_', 't', 'e', 's']) (by kernel_rfl) owner_seti]; kernel_rfl
  case zfin => run_tac Mine.sq
theorem slot_seti_iter : Slot "set_iterator" "__iter__" "set_iterator.__iter__" :=
  .of (owner := "set_iterator") (n := "__iter__") (by rw [typeLookup_type, builtinLookup_eq_fast]; kernel_rfl) (by decide +kernel) (by decide +kernel) (by decide +kernel)
    (by first | exact .inl (by decide +kernel) | exact .inr (by decide +kernel)) (by rw [isSubtype_type]; kernel_rfl)
theorem entry_seti_iter : entryFor table "set_iterator.__iter__" = some Builtin.«dict_keyiterator.__iter__» := entryFor_alias (id' := "dict_keyiterator.__iter__") (by kernel_rfl) rfl (by decide +kernel) (by kernel_rfl)
theorem args_seti_iter (a : Value) : argsOk "set_iterator.__iter__" ⟨[a], []⟩ := by
  refine @Mine.sqz _ ?zmain ?zfin
  case zmain =>
    unfold argsOk; rw [signature?_of (id := "set_iterator.__iter__") (n := ['_', '_', 'r', 'e', 't', 'i', '_', '_']) (o := ['r', 'o', 't', 'a', 'r', 'e', 't', 'i', '_', 't', 'e', 's']) (by kernel_rfl) owner_seti]; kernel_rfl
  case zfin => run_tac Mine.sq
theorem entry_set_iter : entryFor table "set.__iter__" = some Builtin.«frozenset.__iter__» := entryFor_alias (id' := "frozenset.__iter__") (by kernel_rfl) rfl (by decide +kernel) (by kernel_rfl)
section
variable {prog : Program} {w : World} {A : Around} {E : Value → Shared → Prop} {s : Shared}
noncomputable abbrev setIt (first : Value) (i : Nat) (S : Addr) (n ep : Nat) : Obj := { cls := .type "set_iterator", data := .fields #[first, rawInt i, .ref S, rawInt n, rawInt ep] }
noncomputable abbrev rawTup (pls : List Nat) : Obj := { cls := .type "tuple", data := .seq ((pls.map fun (i : Nat) => rawInt (i : Int)).toArray) }
theorem seti_type {I : Addr} {f : Value} {i S n ep} (h : s.heap.get? I = some (setIt f i S n ep)) : s.TypeIs (.ref I) "set_iterator" := ⟨_, h, rfl⟩
theorem two_draw {Q : List Nat → Shared → Prop} (h : ∀ pls dr, (pls = [0, 1] ∨ pls = [1, 0]) → Q pls { s with drawn := dr }) : wpAny (model prog w) A (drawOrder 2 (List.range 2)) Q E s := by
  refine @Mine.sqz _ ?zmain ?zfin
  case zmain =>
    have ch : ∀ {n : Nat} {s : Shared} {Q : Nat → Shared → Prop}, n ≠ 0 → (∀ i dr, i < n → Q i { s with drawn := dr }) → wpAny (model prog w) A (choose .order n) Q E s := fun {n s Q} hn hq => fun Γ p _ => by
      unfold choose
      rw [Sem.wp_choose]
      exact ⟨hn, hq _ _ (Nat.mod_lt _ (Nat.pos_of_ne_zero hn))⟩
    show wpAny _ _ (drawOrder 2 [0, 1]) _ _ _
    unfold drawOrder
    refine wpAny_bind (ch (by decide) fun i dr hi => ?_)
    have hi2 : i = 0 ∨ i = 1 := by
      have : ([0, 1] : List Nat).length = 2 := rfl
      omega
    rcases hi2 with rfl | rfl
    · show wpAny _ _ (drawOrder 1 [1] >>= fun r => pure (0 :: r)) _ _ _
      unfold drawOrder
      refine wpAny_bind (wpAny_bind (ch (by decide) fun i dr2 hi => ?_))
      obtain rfl : i = 0 := by
        have : ([1] : List Nat).length = 1 := rfl
        omega
      show wpAny _ _ (drawOrder 0 [] >>= fun r => pure (1 :: r)) _ _ _
      exact wpAny_bind (wpAny_pure (wpAny_pure (wpAny_pure (h [0, 1] dr2 (.inl rfl)))))
    · show wpAny _ _ (drawOrder 1 [0] >>= fun r => pure (1 :: r)) _ _ _
      unfold drawOrder
      refine wpAny_bind (wpAny_bind (ch (by decide) fun i dr2 hi => ?_))
      obtain rfl : i = 0 := by
        have : ([0] : List Nat).length = 1 := rfl
        omega
      show wpAny _ _ (drawOrder 0 [] >>= fun r => pure (0 :: r)) _ _ _
      exact wpAny_bind (wpAny_pure (wpAny_pure (wpAny_pure (h [1, 0] dr2 (.inr rfl)))))
  case zfin => run_tac Mine.sq
theorem set_entries {S : Addr} {es : Array (Int × Value)} {ep : Nat} {t : SetTable} {Q : Array (Int × Value) → Shared → Prop} (hS : s.heap.get? S = some (setO es ep t)) (hf : t.fits es.size = true) (h : Q es s) : wpAny (model prog w) A (setEntries S) Q E s := by
  unfold setEntries
  exact wpAny_bind (wpAny_setState_of hS rfl hf (wpAny_pure h))
theorem set_epoch {S : Addr} {es : Array (Int × Value)} {ep : Nat} {t : SetTable} {Q : Nat → Shared → Prop} (hS : s.heap.get? S = some (setO es ep t)) (hf : t.fits es.size = true) (h : Q ep s) : wpAny (model prog w) A (setEpoch S) Q E s := by
  unfold setEpoch
  exact wpAny_bind (wpAny_setState_of hS rfl hf (wpAny_pure h))
theorem set_drawn {S : Addr} {es : Array (Int × Value)} {ep : Nat} {t : SetTable} {Q : Bool → Shared → Prop} (hS : s.heap.get? S = some (setO es ep t)) (hf : t.fits es.size = true)
    (h : Q (!w.params.followText "set-order" && (!t.plain && decide (es.size > 1))) s) : wpAny (model prog w) A (setDrawn S) Q E s := by
  unfold setDrawn setsByText
  refine wpAny_bind (wpAny_setState_of hS rfl hf ?_)
  exact wpAny_bind (wpAny_bind (wpAny_askSetting (wpAny_pure (wpAny_pure h))))
/-- the iterator of a set is made -/
theorem iter_set {S : Addr} {es : Array (Int × Value)} {ep : Nat} {t : SetTable} {Q : Value → Shared → Prop} (hS : s.heap.get? S = some (setO es ep t)) (hf : t.fits es.size = true)
    (h0 : (!w.params.followText "set-order" && (!t.plain && decide (es.size > 1))) = false → Q (.ref s.heap.objs.size) { s with heap := s.heap.push (setIt (rawInt 0) 0 S es.size ep) })
    (h1 : w.params.followText "set-order" = false → es.size = 2 → ∀ pls dr, (pls = [0, 1] ∨ pls = [1, 0]) → Q (.ref (s.heap.objs.size + 1)) { s with heap := (s.heap.push (rawTup pls)).push (setIt (.ref s.heap.objs.size) 0 S es.size ep), drawn := dr }) (h2 : es.size ≤ 2) :
    wpAny (model prog w) A (pyIter (.ref S)) Q E s := by
  refine @Mine.sqz _ ?zmain ?zfin
  case zmain =>
    have hT : s.TypeIs (.ref S) "set" := ⟨_, hS, rfl⟩
    refine wpAny_pyIter_slot hT F.slot_set_iter (wpAny_call_entry F.slot_set_iter hT entry_set_iter ?_ (F.args_set_iter_1 _))
    show wpAny _ _ (Builtin.Frozenset.sizeOf S >>= _) _ _ s
    refine wpAny_bind ?_
    unfold Builtin.Frozenset.sizeOf
    refine wpAny_bind (set_entries hS hf (wpAny_pure ?_))
    refine wpAny_bind (set_drawn hS hf ?_)
    cases hd : (!w.params.followText "set-order" && (!t.plain && decide (es.size > 1))) with
    | false =>
      simp only [Bool.false_eq_true, ↓reduceIte]
      refine wpAny_bind (wpAny_pure ?_)
      refine wpAny_bind (set_epoch hS hf ?_)
      exact wpAny_bind (wpAny_newObj_type (wpAny_pure ⟨_, rfl, "set_iterator", _, ⟨_, Heap.get?_push_size _ rfl, rfl⟩, slot_seti_next.lookup, h0 hd⟩))
    | true =>
      have hd' := hd
      simp only [Bool.and_eq_true, Bool.not_eq_true', decide_eq_true_eq] at hd'
      have hsz : es.size = 2 := by have := hd'.2.2; omega
      simp only [↓reduceIte]
      refine wpAny_bind ?_
      rw [hsz]
      refine two_draw fun pls dr hp => ?_
      have hpl : pls.length = 2 := by rcases hp with rfl | rfl <;> rfl
      refine wpAny_bind (wpAny_newTuple (items := pls.map fun (i : Nat) => rawInt (i : Int)) ?_ (by rw [List.length_map, hpl, sizeLine_eq]; omega))
      have hS2 : (s.heap.push (rawTup pls)).get? S = some (setO es ep t) := Heap.get?_push_of_some _ hS
      refine wpAny_bind (set_epoch hS2 hf ?_)
      have key := h1 hd'.1 hsz pls dr hp
      rw [hsz] at key
      refine wpAny_bind (wpAny_newObj_type (wpAny_pure ⟨_, rfl, "set_iterator", _, ⟨_, Heap.get?_push_size _ rfl, rfl⟩, slot_seti_next.lookup, ?_⟩))
      show Q (.ref (s.heap.push (rawTup pls)).objs.size) _
      rw [Heap.size_push]
      exact key
  case zfin => run_tac Mine.sq
end
end Mine

theorem Mine.use_M70e : True := by
  w_top off
  run_tac Mine.use ["linesP", "linesZZ"]
  trivial
namespace Mine
section
variable {prog : Program} {w : World} {A : Around} {E : Value → Shared → Prop} {s : Shared}
theorem stop_wp {α : Type} {Q : α → Shared → Prop} (hh : A.handled = none) (h : ∀ (h' : Heap) (x : Value), s.heap.objs.size ≤ h'.objs.size → (∀ b o, s.heap.get? b = some o → h'.get? b = some o) → Shared.TypeIs { s with heap := h' } x "StopIteration" → E x { s with heap := h' }) :
    wpAny (model prog w) A (do let e ← newExc (.type "StopIteration") []; (raiseNew e : Sem α)) Q E s := by
  refine @Mine.sqz _ ?zmain ?zfin
  case zmain =>
    refine wpAny_bind ?_
    simp only [newExc, newTuple]
    refine wpAny_bind (wpAny_newObj_type ?_ (by size_fits))
    refine wpAny_bind (m := firstArgMember _ _) (wpAny_of_eq (a := Value.none) (by first | rfl | (simp only [firstArgMember]; rfl)) ?_)
    refine wpAny_newObj_type ?_ (by size_fits)
    simp only [raiseNew]
    refine wpAny_bind (wpAny_handled ?_)
    rw [hh]
    refine wpAny_bind (wpAny_pure (wpAny_throw (h _ _ ?_ (fun b o e => Heap.get?_push_of_some _ (Heap.get?_push_of_some _ e)) ?_)))
    · rw [Heap.size_push, Heap.size_push]; omega
    · exact ⟨_, Heap.get?_push_size _ rfl, rfl⟩
  case zfin => run_tac Mine.sq
theorem toNat_nat (n : Nat) : Int.toNat (n : Int) = n := Int.toNat_natCast n
/-- the iterator over a set whose order has been drawn -/
theorem walks_drawn (hh : A.handled = none) {I T S : Addr} (hIT : I ≠ T) (hIS : I ≠ S) {es : Array (Int × Value)} {ep : Nat} {t : SetTable} {pls : List Nat} (hf : t.fits es.size = true) (hlt : ∀ p ∈ pls, p < es.size) :
    WalksS prog w A I [I, T, S] [I] (fun a b => b = a) pls.length (fun i v => ∃ p e, pls[i]? = some p ∧ es[p]? = some e ∧ v = e.2)
      (fun i s => s.heap.get? I = some (setIt (.ref T) i S es.size ep) ∧ s.heap.get? T = some (rawTup pls) ∧ s.heap.get? S = some (setO es ep t)) where
  sub := fun b hb => by simp at hb; simp [hb]
  grefl := fun _ => rfl
  gtrans := fun _ _ _ h1 h2 => h2.trans h1
  frame := fun i s h' tk st _ hk => ⟨hk I (by simp) _ st.1, hk T (by simp) _ st.2.1, hk S (by simp) _ st.2.2⟩
  self := fun i s Q E st hQ => by
    have hT := seti_type st.1
    exact wpAny_pyIter_slot hT slot_seti_iter (wpAny_call_entry slot_seti_iter hT entry_seti_iter (show wpAny _ _ (ret (.ref I)) _ _ _ from wpAny_pure ⟨_, rfl, "set_iterator", _, hT, slot_seti_next.lookup, hQ⟩) (args_seti_iter _))
  item := fun i s Q E hi st hQ => by
    obtain ⟨hI, hTu, hS⟩ := st
    have hT := seti_type hI
    obtain ⟨p, hp⟩ : ∃ p, pls[i]? = some p := ⟨pls[i], by simp [hi]⟩
    have hpe : p < es.size := hlt p (List.mem_of_getElem? hp)
    obtain ⟨e, he⟩ : ∃ e, es[p]? = some e := ⟨es[p], by simp [hpe]⟩
    unfold pyNext
    refine wpAny_bind (wpAny_attempt (wpAny_callSpecial?_slot (name := Str.ofString "__next__") hT slot_seti_next (wpAny_call_entry slot_seti_next hT entry_seti_next ?_ (args_seti_next _))))
    show wpAny _ _ (fieldsOf (.ref I) >>= _) _ _ s
    refine wpAny_bind (wpAny_fieldsOf hI rfl ?_)
    dsimp only
    refine wpAny_bind (set_entries hS hf ?_)
    have e1 : (((es.size : Nat) : Int) != ((es.size : Nat) : Int)) = false := by simp
    simp only [e1, Bool.false_eq_true, ↓reduceIte]
    refine wpAny_bind (wpAny_seqItems hTu rfl ?_)
    have e2 : (pls.map fun (i : Nat) => rawInt (i : Int)).toArray[Int.toNat (i : Int)]? = some (rawInt (p : Int)) := by
      rw [toNat_nat]; simp [hp]
    simp only [e2]
    unfold setNextDrawn
    refine wpAny_bind (wpAny_bind (wpAny_setState_of hS rfl hf ?_))
    have e3 : (ep != Int.toNat (ep : Int)) = false := by simp
    simp only [e3, bne_self_eq_false, Bool.false_eq_true, ↓reduceIte, toNat_nat, he]
    refine wpAny_pure ?_
    refine wpAny_bind (wpAny_setField_rec hI (by simp) fun h' g hs => wpAny_pure ⟨e.2, rfl, wpAny_pure (hQ _ _ ⟨p, e, hp, he, rfl⟩ ⟨?_, ?_, ?_⟩ ⟨?_, rfl, rfl, rfl, Nat.le_refl _⟩)⟩)
    · exact g
    · exact (hs.2 T (Ne.symm hIT)).trans hTu
    · exact (hs.2 S (Ne.symm hIS)).trans hS
    · intro b o hb e4
      exact (hs.2 b (fun q => hb (by rw [q]; exact List.mem_singleton.mpr rfl))).trans e4
  done := fun s Q E st hQ => by
    obtain ⟨hI, hTu, hS⟩ := st
    have hT := seti_type hI
    unfold pyNext
    refine wpAny_bind (wpAny_attempt (wpAny_callSpecial?_slot (name := Str.ofString "__next__") hT slot_seti_next (wpAny_call_entry slot_seti_next hT entry_seti_next ?_ (args_seti_next _))))
    show wpAny _ _ (fieldsOf (.ref I) >>= _) _ _ s
    refine wpAny_bind (wpAny_fieldsOf hI rfl ?_)
    dsimp only
    refine wpAny_bind (set_entries hS hf ?_)
    have e1 : (((es.size : Nat) : Int) != ((es.size : Nat) : Int)) = false := by simp
    simp only [e1, Bool.false_eq_true, ↓reduceIte]
    refine wpAny_bind (wpAny_seqItems hTu rfl ?_)
    have e2 : (pls.map fun (i : Nat) => rawInt (i : Int)).toArray[Int.toNat (pls.length : Int)]? = none := by
      rw [toNat_nat]; simp
    simp only [e2]
    refine wpAny_bind (wpAny_setField_rec hI (by simp) fun h1 g1 s1 => ?_)
    refine wpAny_bind (wpAny_setField_rec g1 (by simp) fun h2 g2 s2 => ?_)
    refine stop_wp hh fun h3 x hle hk hTx => ?_
    refine wpAny_bind (wpAny_isInstance (T := "StopIteration") (b := true) hTx isSubtype_stop ?_)
    refine wpAny_pure (hQ _ ⟨fun b o hb e4 => hk b o ?_, rfl, rfl, rfl, Nat.le_refl _⟩)
    have hbI : b ≠ I := fun q => hb (by rw [q]; exact List.mem_singleton.mpr rfl)
    exact (s2.2 b hbI).trans ((s1.2 b hbI).trans e4)
/-- the iterator over a set in its own order -/
theorem walks_plain (hh : A.handled = none) {I S : Addr} (hIS : I ≠ S) {es : Array (Int × Value)} {ep : Nat} {t : SetTable} {vs : List (Int × Value)} {slots : Nat → Nat} (hf : t.fits es.size = true)
    (hn : ∀ (A' : Around) (E' : Value → Shared → Prop) i (s : Shared) (Q : Option (Value × Nat) → Shared → Prop), i ≤ vs.length → s.heap.get? S = some (setO es ep t) → Q ((vs[i]?).map fun e => (e.2, slots (i + 1))) s → wpAny (model prog w) A' (setNext S (slots i) i ep) Q E' s) :
    WalksS prog w A I [I, S] [I] (fun a b => b = a) vs.length (fun i v => ∃ e, vs[i]? = some e ∧ v = e.2)
      (fun i s => s.heap.get? I = some (setIt (rawInt (slots i)) i S es.size ep) ∧ s.heap.get? S = some (setO es ep t)) where
  sub := fun b hb => by simp at hb; simp [hb]
  grefl := fun _ => rfl
  gtrans := fun _ _ _ h1 h2 => h2.trans h1
  frame := fun i s h' tk st _ hk => ⟨hk I (by simp) _ st.1, hk S (by simp) _ st.2⟩
  self := fun i s Q E st hQ => by
    have hT := seti_type st.1
    exact wpAny_pyIter_slot hT slot_seti_iter (wpAny_call_entry slot_seti_iter hT entry_seti_iter (show wpAny _ _ (ret (.ref I)) _ _ _ from wpAny_pure ⟨_, rfl, "set_iterator", _, hT, slot_seti_next.lookup, hQ⟩) (args_seti_iter _))
  item := fun i s Q E hi st hQ => by
    obtain ⟨hI, hS⟩ := st
    have hT := seti_type hI
    obtain ⟨e, he⟩ : ∃ e, vs[i]? = some e := ⟨vs[i], by simp [hi]⟩
    unfold pyNext
    refine wpAny_bind (wpAny_attempt (wpAny_callSpecial?_slot (name := Str.ofString "__next__") hT slot_seti_next (wpAny_call_entry slot_seti_next hT entry_seti_next ?_ (args_seti_next _))))
    show wpAny _ _ (fieldsOf (.ref I) >>= _) _ _ s
    refine wpAny_bind (wpAny_fieldsOf hI rfl ?_)
    dsimp only
    refine wpAny_bind (set_entries hS hf ?_)
    have e1 : (((es.size : Nat) : Int) != ((es.size : Nat) : Int)) = false := by simp
    simp only [e1, Bool.false_eq_true, ↓reduceIte]
    simp only [toNat_nat]
    refine wpAny_bind (hn _ _ i s _ (Nat.le_of_lt hi) hS ?_)
    rw [he]
    dsimp only [Option.map]
    refine wpAny_bind (wpAny_setField_rec hI (by simp) fun h1 g1 s1 => ?_)
    refine wpAny_bind (wpAny_setField_rec g1 (by simp) fun h' g hs => wpAny_pure ⟨e.2, rfl, wpAny_pure (hQ _ _ ⟨e, he, rfl⟩ ⟨?_, ?_⟩ ⟨?_, rfl, rfl, rfl, Nat.le_refl _⟩)⟩)
    · exact g
    · exact (hs.2 S (Ne.symm hIS)).trans ((s1.2 S (Ne.symm hIS)).trans hS)
    · intro b o hb e4
      have hbI : b ≠ I := fun q => hb (by rw [q]; exact List.mem_singleton.mpr rfl)
      exact (hs.2 b hbI).trans ((s1.2 b hbI).trans e4)
  done := fun s Q E st hQ => by
    obtain ⟨hI, hS⟩ := st
    have hT := seti_type hI
    unfold pyNext
    refine wpAny_bind (wpAny_attempt (wpAny_callSpecial?_slot (name := Str.ofString "__next__") hT slot_seti_next (wpAny_call_entry slot_seti_next hT entry_seti_next ?_ (args_seti_next _))))
    show wpAny _ _ (fieldsOf (.ref I) >>= _) _ _ s
    refine wpAny_bind (wpAny_fieldsOf hI rfl ?_)
    dsimp only
    refine wpAny_bind (set_entries hS hf ?_)
    have e1 : (((es.size : Nat) : Int) != ((es.size : Nat) : Int)) = false := by simp
    simp only [e1, Bool.false_eq_true, ↓reduceIte]
    simp only [toNat_nat]
    refine wpAny_bind (hn _ _ vs.length s _ (Nat.le_refl _) hS ?_)
    have e2 : vs[vs.length]? = none := by simp
    rw [e2]
    dsimp only [Option.map]
    refine wpAny_bind (wpAny_setField_rec hI (by simp) fun h2 g2 s2 => ?_)
    refine stop_wp hh fun h3 x hle hk hTx => ?_
    refine wpAny_bind (wpAny_isInstance (T := "StopIteration") (b := true) hTx isSubtype_stop ?_)
    refine wpAny_pure (hQ _ ⟨fun b o hb e4 => hk b o ?_, rfl, rfl, rfl, Nat.le_refl _⟩)
    have hbI : b ≠ I := fun q => hb (by rw [q]; exact List.mem_singleton.mpr rfl)
    exact (s2.2 b hbI).trans e4
end
end Mine

theorem Mine.use_M70f : True := by
  w_top off
  run_tac Mine.use ["linesP", "linesZZ"]
  trivial
namespace Mine
theorem len_two {α : Type} {l : List α} (h : l.length = 2) : ∃ a b, l = [a, b] := by
  rcases l with _ | ⟨a, _ | ⟨b, _ | ⟨c, l⟩⟩⟩
  · cases h
  · cases h
  · exact ⟨a, b, rfl⟩
  · exact absurd (Nat.succ.inj (Nat.succ.inj h)) (Nat.succ_ne_zero _)
theorem len_le2 {α : Type} {l : List α} (h : l.length ≤ 2) : l = [] ∨ (∃ a, l = [a]) ∨ ∃ a b, l = [a, b] := by
  refine @Mine.sqz _ ?zmain ?zfin
  case zmain =>
    rcases l with _ | ⟨a, _ | ⟨b, _ | ⟨c, l⟩⟩⟩
    · exact .inl rfl
    · exact .inr (.inl ⟨a, rfl⟩)
    · exact .inr (.inr ⟨a, b, rfl⟩)
    · exact absurd (Nat.le_of_succ_le_succ (Nat.le_of_succ_le_succ h)) (Nat.not_succ_le_zero _)
  case zfin => run_tac Mine.sq
section
variable {prog : Program} {w : World} {A : Around} {E : Value → Shared → Prop} {s : Shared}
theorem hint_set {r : Addr} {Q : Bool → Shared → Prop} (hT : s.TypeIs (.ref r) "set") (h : Q false s) : wpAny (model prog w) A (Builtin.List.listLengthHint (.ref r)) Q E s := by
  refine @Mine.sqz _ ?zmain ?zfin
  case zmain =>
    unfold Builtin.List.listLengthHint
    refine wpAny_bind (wpAny_specialOf hT F.slot_set_len.lookup ?_)
    generalize hid : ("set.__len__" : String) = id0
    wp_delta
    rw [show splitId id0 = some ("set", "__len__") from by subst hid; decide +kernel]
    subst hid
    refine wpAny_bind (wpAny_isInstance (T := "set") (b := true) hT (by rw [isSubtype_type]; kernel_rfl) ?_)
    refine wpAny_ite_split (fun hab => absurd hab (by decide)) (fun _ => ?_)
    refine wpAny_ite_split (fun _ => ?_) (fun hab => absurd (by decide +kernel) hab)
    refine wpAny_bind (wpAny_typeOf hT ?_)
    exact wpAny_pure h
  case zfin => run_tac Mine.sq
/-- a set that can be walked -/
noncomputable def CanWalk (w : World) (es : Array (Int × Value)) (t : SetTable) : Prop :=
  t.fits es.size = true ∧ es.size ≤ 2 ∧ (w.params.followText "set-order" = false → (es.size = 2 ∧ t.plain = false) ∨ ∃ e j, es = #[e] ∧ t = oneTab true j)
theorem pick_perm {next : Nat → Nat} {es : Array (Int × Value)} (h : es.size ≤ 2) : List.Perm (pickOrder next es).toList es.toList := by
  refine @Mine.sqz _ ?zmain ?zfin
  case zmain =>
    obtain ⟨l⟩ := es
    rcases len_le2 (l := l) h with rfl | ⟨a, rfl⟩ | ⟨a, b, rfl⟩
    · exact List.Perm.refl _
    · have : pickOrder next #[a] = #[a] := by
        unfold pickOrder pickOrder.go
        simp [Nat.mod_one, pickOrder.go]
      rw [this]
    · have hm : next 0 % 2 = 0 ∨ next 0 % 2 = 1 := by omega
      have : pickOrder next #[a, b] = #[a, b] ∨ pickOrder next #[a, b] = #[b, a] := by
        unfold pickOrder pickOrder.go
        rcases hm with e | e
        · left; simp [e, pickOrder.go, Nat.mod_one]
        · right; simp [e, pickOrder.go, Nat.mod_one]
      rcases this with e | e
      · rw [e]
      · rw [e]; exact List.Perm.swap _ _ _
  case zfin => run_tac Mine.sq
theorem extend_rest {always : Bool} {R : Result → Shared → Prop} {I S z : Addr} {fp : List Addr} {n c0 : Nat} {P : Nat → Value → Prop} {Sta : Nat → Shared → Prop} (W : WalksS prog w A.in1 I fp [I] (fun a b => b = a) n P Sta) (hst : Sta 0 s) (hz : z ∉ fp) (hn : n ≤ 2) (hT : s.TypeIs (.ref S) "set")
    (hzl : s.heap.get? z = some { cls := .type "list", data := .seq #[] c0 })
    (hR : ∀ h' tk acc c, (∀ b o, b ≠ z → b ≠ I → s.heap.get? b = some o → h'.get? b = some o) → h'.get? z = some { cls := .type "list", dict := none, data := .seq acc c, slots := #[] } → ItemsOf P acc n → R (.ok (.ret (.ref z))) { s with heap := h', toks := tk }) :
    wpAny (model prog w) A.in1 (do
        let room ← holding [.ref I] (Builtin.List.listLengthHint (.ref S))
        if (room || always) = true then (do rule "list.extend.makes-room"; Builtin.List.listTouch (.ref z); again (.builtin "list.extend.loop" ⟨[.ref z, .ref I, .ref z], []⟩))
        else again (.builtin "list.extend.loop" ⟨[.ref z, .ref I, .ref z], []⟩))
      (fun fin s' => match fin with | .done f => R (.ok f) s' | .again c' => c'.quiet = true ∧ codeAny (model prog w) A c' R s') (fun e s' => R (.error e) s') s := by
  refine @Mine.sqz _ ?zmain ?zfin
  case zmain =>
    have key : ∀ (h : Heap) (c₁ tk : Nat), Sta 0 { s with heap := h, toks := tk } → (∀ b o, b ≠ z → s.heap.get? b = some o → h.get? b = some o) →
        h.get? z = some { cls := .type "list", data := .seq #[] c₁ } → codeAny (model prog w) A (.builtin "list.extend.loop" ⟨[.ref z, .ref I, .ref z], []⟩) R { s with heap := h, toks := tk } := by
      intro h c₁ tk hst hk hS₁
      refine codeAny_extend_loopS W (by rw [sizeLine_eq]; omega) z hz (.ref z) n 0 _ #[] c₁ rfl (Nat.zero_le _) hst hS₁ (ItemsOf.nil _) fun s' acc' c' hm hS' hacc => ?_
      rw [Moved.eq_with hm]
      refine hR s'.heap s'.toks acc' c' (fun b o hb hbI e => hm.heap b o (fun hmem => ?_) (hk b o hb e)) hS' hacc
      rcases List.mem_cons.mp hmem with e' | hmem
      · exact hb e'
      · exact hbI (List.mem_singleton.mp hmem)
    refine wpAny_bind (wpAny_holding (hint_set hT ?_))
    refine wpAny_ite_split (fun _ => ?_) (fun _ => wpAny_pure ⟨plainId_quiet PySem.F.plain_extend_loop _, key _ c0 s.toks hst (fun b o _ e => e) hzl⟩)
    refine wpAny_bind (wpAny_rule ?_)
    refine wpAny_bind ?_
    show wpAny _ _ (updateSeq z (·.push .none) >>= fun _ => updateSeq z (·.pop)) _ _ _
    refine wpAny_bind (wpAny_updateSeq hzl rfl ?_)
    have hS₂ := Heap.get?_update_self (Obj.mapSeq (·.push Value.none)) hzl rfl
    refine wpAny_updateSeq (hz := by seq_fits) hS₂ rfl ?_
    have hS₃ := Heap.get?_update_self (Obj.mapSeq (·.pop)) hS₂ rfl
    refine wpAny_pure ⟨plainId_quiet PySem.F.plain_extend_loop _, key _ _ s.toks ?_ (fun b o hb e => ?_) hS₃⟩
    · refine W.frame 0 s _ s.toks hst (Nat.le_refl _) fun b hb o e => ?_
      have hbS : b ≠ z := fun h => hz (h ▸ hb)
      exact (Heap.get?_update_other _ _ (Ne.symm hbS)).trans ((Heap.get?_update_other _ _ (Ne.symm hbS)).trans e)
    · exact (Heap.get?_update_other _ _ (Ne.symm hb)).trans ((Heap.get?_update_other _ _ (Ne.symm hb)).trans e)
  case zfin => run_tac Mine.sq
theorem items_eq {l : List Value} {acc : Array Value} (h : ItemsOf (fun i v => l[i]? = some v) acc l.length) : acc.toList = l := by
  refine @Mine.sqz _ ?zmain ?zfin
  case zmain =>
    refine List.ext_getElem? fun i => ?_
    rw [Array.getElem?_toList]
    by_cases hi : i < acc.size
    · have h2 := h.2 i acc[i] (by simp [hi])
      rw [h2]; simp [hi]
    · have h3 : l[i]? = none := by rw [List.getElem?_eq_none_iff, ← h.1]; omega
      rw [h3]; simp; omega
  case zfin => run_tac Mine.sq
theorem ItemsOf.mono {P P' : Nat → Value → Prop} {acc : Array Value} {n : Nat} (h : ItemsOf P acc n) (k : ∀ i v, P i v → P' i v) : ItemsOf P' acc n := ⟨h.1, fun j v e => k j v (h.2 j v e)⟩
noncomputable def CollBack (s : Shared) (S : Addr) (es : Array (Int × Value)) (q : Result) (s' : Shared) : Prop :=
  ∃ h' tk dr acc c, q = .ok (.ret (.ref s.heap.objs.size)) ∧ s' = { s with heap := h', toks := tk, drawn := dr } ∧ (∀ b o, s.heap.get? b = some o → h'.get? b = some o) ∧
    h'.get? s.heap.objs.size = some { cls := .type "list", dict := none, data := .seq acc c, slots := #[] } ∧ List.Perm acc.toList (es.toList.map (·.2))
theorem collect_set {S : Addr} {es : Array (Int × Value)} {ep : Nat} {t : SetTable} {Q : List Value → Shared → Prop} (hh : A.handled = none) (hS : s.heap.get? S = some (setO es ep t)) (cw : CanWalk w es t)
    (h : ∀ vs h' tk dr, List.Perm vs (es.toList.map (·.2)) → (∀ b o, s.heap.get? b = some o → h'.get? b = some o) → Q vs { s with heap := h', toks := tk, drawn := dr }) :
    wpAny (model prog w) A (collect (.ref S)) Q E s := by
  refine @Mine.sqz _ ?zmain ?zfin
  case zmain =>
    obtain ⟨hf, hsz, hord⟩ := cw
    have hSlt := Heap.lt_size hS
    have hh1 : A.in1.handled = none := by simp [hh]
    unfold collect
    refine wpAny_bind (wpAny_runValue (codeAny_builtin PySem.F.entry_proto_collect ?_))
    rw [Around.under_plainId PySem.F.plain_proto_collect _]
    show wpAny _ A.in1 (newList [] >>= fun l => again (.builtin "list.__iadd__" ⟨[l, .ref S], []⟩)) _ _ s
    refine wpAny_bind (wpAny_newObj_type ?_)
    refine wpAny_pure ⟨plainId_quiet PySem.F.plain_list_iadd _, codeAny_builtin PySem.F.entry_list_iadd ?_⟩
    rw [Around.under_plainId PySem.F.plain_list_iadd _]
    have hz0 : (s.heap.push { cls := .type "list", data := .seq ([] : List Value).toArray }).get? s.heap.objs.size = some { cls := .type "list", data := .seq #[] } := Heap.get?_push_size _ rfl
    have hS1 : (s.heap.push { cls := .type "list", data := .seq ([] : List Value).toArray }).get? S = some (setO es ep t) := Heap.get?_push_of_some _ hS
    have hsz1 : (s.heap.push { cls := .type "list", data := .seq ([] : List Value).toArray }).objs.size = s.heap.objs.size + 1 := Heap.size_push _ _
    show wpAny _ A.in1 (Builtin.List.listExtendWith (.ref s.heap.objs.size) (.ref S) (.ref s.heap.objs.size)) _ _ _
    suffices key : wpAny (model prog w) A.in1 (Builtin.List.listExtendWith (.ref s.heap.objs.size) (.ref S) (.ref s.heap.objs.size)) (fun fin s' => match fin with | .done f => CollBack s S es (.ok f) s' | .again c' => c'.quiet = true ∧ codeAny (model prog w) A c' (CollBack s S es) s') (fun e s' => CollBack s S es (.error e) s') { s with heap := s.heap.push { cls := .type "list", data := .seq ([] : List Value).toArray } } by
      refine wpAny_mono key (fun fin s' x => ?_) fun e s' x => ?_
      · cases fin with
        | done f =>
          obtain ⟨h', tk, dr, acc, c, e, rfl, hk, hz, hp⟩ := x
          cases e
          show wpAny _ A (load s.heap.objs.size >>= _) _ _ _
          refine wpAny_bind (wpAny_load hz ?_)
          exact wpAny_pure (h _ h' tk dr hp hk)
        | again c₁ =>
          refine ⟨x.1, codeAny_mono x.2 fun q s₂ y => ?_⟩
          obtain ⟨h', tk, dr, acc, c, rfl, rfl, hk, hz, hp⟩ := y
          show wpAny _ A (load s.heap.objs.size >>= _) _ _ _
          refine wpAny_bind (wpAny_load hz ?_)
          exact wpAny_pure (h _ h' tk dr hp hk)
      · obtain ⟨_, _, _, _, _, e', _⟩ := x
        cases e'
    unfold Builtin.List.listExtendWith
    have hT1 : Shared.TypeIs { s with heap := s.heap.push { cls := .type "list", data := .seq ([] : List Value).toArray } } (.ref S) "set" := ⟨_, hS1, rfl⟩
    refine wpAny_bind (wpAny_typeOf (T := "set") hT1 ?_)
    have hzS : s.heap.objs.size ≠ S := Nat.ne_of_gt hSlt
    have h1 : Builtin.List.listSameRef (.ref s.heap.objs.size) (.ref S) = false := by simp [Builtin.List.listSameRef, hzS]
    have h2 : (Value.type "set" == Value.type "list") = false := by decide
    have h3 : (Value.type "set" == Value.type "tuple") = false := by decide
    simp only [h1, h2, h3, Bool.or_false, Bool.false_eq_true, if_false]
    refine wpAny_bind (iter_set hS1 hf (fun hd => ?_) (fun hbt hs2 pls dr hp => ?_) hsz)
    · have plainC : ∃ (vs : List (Int × Value)) (slots : Nat → Nat), List.Perm vs es.toList ∧ slots 0 = 0 ∧ ∀ (A' : Around) (E' : Value → Shared → Prop) i (s : Shared) (Q : Option (Value × Nat) → Shared → Prop), i ≤ vs.length → s.heap.get? S = some (setO es ep t) → Q ((vs[i]?).map fun e => (e.2, slots (i + 1))) s → wpAny (model prog w) A' (setNext S (slots i) i ep) Q E' s := by
        cases hb : w.params.followText "set-order" with
        | true =>
          refine ⟨(pickOrder (w.params.setOrder S ep) es).toList, fun _ => 0, pick_perm hsz, rfl, fun A' E' i s Q hi hS hQ => ?_⟩
          unfold setNext setsByText setWalk setsByText
          refine wpAny_bind (wpAny_setState_of hS rfl hf ?_)
          refine wpAny_bind (wpAny_bind (wpAny_askSetting (wpAny_pure ?_)))
          dsimp only [model]
          simp only [hb, bne_self_eq_false, Bool.false_eq_true, ↓reduceIte]
          refine wpAny_bind (wpAny_bind (wpAny_setState_of hS rfl hf ?_))
          refine wpAny_bind (wpAny_bind (wpAny_askSetting (wpAny_pure ?_)))
          dsimp only [model]
          simp only [hb, ↓reduceIte]
          refine wpAny_bind (wpAny_askSetting (wpAny_pure ?_))
          refine wpAny_pure ?_
          rw [Array.getElem?_toList] at hQ
          exact hQ
        | false =>
          rcases hord hb with ⟨e2, ep2⟩ | ⟨e, j, rfl, rfl⟩
          · rw [hb, ep2, e2] at hd; exact absurd hd (by decide)
          · refine ⟨[e], fun i => if i = 0 then 0 else j + 1, List.Perm.refl _, rfl, fun A' E' i s Q hi hS hQ => ?_⟩
            unfold setNext setsByText
            refine wpAny_bind (wpAny_setState_of hS rfl hf ?_)
            refine wpAny_bind (wpAny_bind (wpAny_askSetting (wpAny_pure ?_)))
            dsimp only [model]
            simp only [hb, Bool.false_eq_true, ↓reduceIte]
            have hi2 : i = 0 ∨ i = 1 := by
              have : ([e] : List (Int × Value)).length = 1 := rfl
              omega
            rcases hi2 with rfl | rfl
            · exact wpAny_pure hQ
            · have eb : SetTable.below #[j] (j + 1) = 1 := by
                unfold SetTable.below
                show SetTable.below.go #[j] (j + 1) 1 0 1 = 1
                unfold SetTable.below.go
                simp [SetTable.below.go]
              refine wpAny_pure ?_
              show Q (match (#[e] : Array (Int × Value))[SetTable.below #[j] (j + 1)]?, (#[j] : Array Nat)[SetTable.below #[j] (j + 1)]? with
                | some (_, x), some j => some (x, j + 1)
                | _, _ => none) s
              rw [eb]
              exact hQ
      obtain ⟨vs, slots, hperm, hs0, hn⟩ := plainC
      have hIS : (s.heap.push { cls := .type "list", data := .seq ([] : List Value).toArray }).objs.size ≠ S := by rw [hsz1]; exact Nat.ne_of_gt (Nat.lt_succ_of_lt hSlt)
      have hvl : vs.length ≤ 2 := by rw [hperm.length_eq, Array.length_toList]; exact hsz
      refine extend_rest (walks_plain (ep := ep) hh1 hIS hf hn) ?_ ?_ hvl ?_ (c0 := 0) ?_ fun h' tk acc c hk hzf hacc => ?_
      · refine ⟨?_, Heap.get?_push_of_some _ hS1⟩
        rw [hs0]; exact Heap.get?_push_size _ rfl
      rotate_left
      · exact ⟨_, Heap.get?_push_of_some _ hS1, rfl⟩
      · exact Heap.get?_push_of_some _ hz0
      rotate_right
      · rw [hsz1]
        simp only [List.mem_cons, List.mem_singleton, List.not_mem_nil, or_false, not_or]
        exact ⟨Nat.ne_of_lt (Nat.lt_succ_self _), hzS⟩
      have ea : acc.toList = vs.map (·.2) := items_eq (ItemsOf.mono (by rw [List.length_map]; exact hacc) fun i v hv => by
        obtain ⟨e, e1, rfl⟩ := hv
        rw [List.getElem?_map, e1]; rfl)
      refine ⟨h', tk, _, acc, c, rfl, rfl, fun b o hb => ?_, hzf, by rw [ea]; exact hperm.map _⟩
      have hbl := Heap.lt_size hb
      exact hk b o (Nat.ne_of_lt hbl) (by rw [hsz1]; exact Nat.ne_of_lt (Nat.lt_succ_of_lt hbl)) (Heap.get?_push_of_some _ (Heap.get?_push_of_some _ hb))
    · have hpl : ∀ p ∈ pls, p < es.size := by rcases hp with rfl | rfl <;> (intro p hp; simp at hp; omega)
      have hpn : pls.length = 2 := by rcases hp with rfl | rfl <;> rfl
      have e0 : ((s.heap.push { cls := .type "list", data := .seq ([] : List Value).toArray }).push (rawTup pls)).objs.size = s.heap.objs.size + 2 := by rw [Heap.size_push, hsz1]
      have hIT : (s.heap.push { cls := .type "list", data := .seq ([] : List Value).toArray }).objs.size + 1 ≠ (s.heap.push { cls := .type "list", data := .seq ([] : List Value).toArray }).objs.size := by omega
      have hIS : (s.heap.push { cls := .type "list", data := .seq ([] : List Value).toArray }).objs.size + 1 ≠ S := by rw [hsz1]; exact Nat.ne_of_gt (Nat.lt_succ_of_lt (Nat.lt_succ_of_lt hSlt))
      have hIlt : s.heap.objs.size < (s.heap.push { cls := .type "list", data := .seq ([] : List Value).toArray }).objs.size + 1 := by rw [hsz1]; omega
      have hTlt : s.heap.objs.size < (s.heap.push { cls := .type "list", data := .seq ([] : List Value).toArray }).objs.size := by rw [hsz1]; omega
      refine extend_rest (walks_drawn (ep := ep) (T := (s.heap.push { cls := .type "list", data := .seq ([] : List Value).toArray }).objs.size) hh1 hIT hIS hf hpl) ?_ ?_ (Nat.le_of_eq hpn) ?_ (c0 := 0) ?_ fun h' tk acc c hk hzf hacc => ?_
      · refine ⟨?_, Heap.get?_push_of_some _ (Heap.get?_push_size _ rfl), Heap.get?_push_of_some _ (Heap.get?_push_of_some _ hS1)⟩
        have eI := Heap.get?_push_size ((s.heap.push { cls := .type "list", data := .seq ([] : List Value).toArray }).push (rawTup pls)) (o := setIt (.ref (s.heap.push { cls := .type "list", data := .seq ([] : List Value).toArray }).objs.size) 0 S es.size ep) rfl
        have e9 : ((s.heap.push { cls := .type "list", data := .seq ([] : List Value).toArray }).push (rawTup pls)).objs.size = (s.heap.push { cls := .type "list", data := .seq ([] : List Value).toArray }).objs.size + 1 := Heap.size_push _ _
        rw [e9] at eI
        exact eI
      rotate_left
      · exact ⟨_, Heap.get?_push_of_some _ (Heap.get?_push_of_some _ hS1), rfl⟩
      · exact Heap.get?_push_of_some _ (Heap.get?_push_of_some _ hz0)
      rotate_right
      · simp only [List.mem_cons, List.mem_singleton, List.not_mem_nil, or_false, not_or]
        exact ⟨Nat.ne_of_lt hIlt, Nat.ne_of_lt hTlt, hzS⟩
      obtain ⟨l⟩ := es
      have hl2 : l.length = 2 := hs2
      obtain ⟨e1, e2, rfl⟩ : ∃ e1 e2, l = [e1, e2] := len_two (l := l) hl2
      refine ⟨h', tk, _, acc, c, rfl, rfl, fun b o hb => ?_, hzf, ?_⟩
      rotate_left
      · rcases hp with rfl | rfl
        · have ea : acc.toList = [e1.2, e2.2] := items_eq (ItemsOf.mono hacc fun i v hv => by
            obtain ⟨p, e, h1, h2, rfl⟩ := hv
            match i with
            | 0 => cases h1; cases h2; rfl
            | 1 => cases h1; cases h2; rfl
            | n + 2 => simp at h1)
          rw [ea]; exact List.Perm.refl _
        · have ea : acc.toList = [e2.2, e1.2] := items_eq (ItemsOf.mono hacc fun i v hv => by
            obtain ⟨p, e, h1, h2, rfl⟩ := hv
            match i with
            | 0 => cases h1; cases h2; rfl
            | 1 => cases h1; cases h2; rfl
            | n + 2 => simp at h1)
          rw [ea]; exact List.Perm.swap _ _ _
      · have hbl := Heap.lt_size hb
        exact hk b o (Nat.ne_of_lt hbl) (Nat.ne_of_lt (Nat.lt_trans hbl hIlt)) (Heap.get?_push_of_some _ (Heap.get?_push_of_some _ (Heap.get?_push_of_some _ hb)))
  case zfin => run_tac Mine.sq
end
end Mine

theorem Mine.use_M71 : True := by
  w_top off
  run_tac Mine.use ["linesP", "linesZZ"]
  trivial
namespace Mine
section
variable {prog : Program} {w : World} {A : Around} {E : Value → Shared → Prop} {s : Shared}
theorem split_tree (x y : Str) (t u v : Tok) : ∃ raising, Builtin.«str.split» ⟨[.str x t, .str y u, .int 1 v], []⟩ = (do
    if (decide (x.length < y.length) || decide (Builtin.Str.strKind x < Builtin.Str.strKind y)) = true then (do rule "str.split.sep-cannot-occur"; ret (← newList [.str x t]))
    else if (y.length == 0) = true then raising
    else if (true && (Builtin.Str.occurrences x y 0 x.length 1).isEmpty) = true then (do rule "str.split.same-object"; ret (← newList [.str x t]))
    else do ret (← newList (← (Builtin.Str.partsBetween x (Builtin.Str.occurrences x y 0 x.length 1) y.length).mapM mkStr))) := ⟨_, rfl⟩
end
end Mine
namespace Mine
section
variable {prog : Program} {w : World} {A : Around} {E : Value → Shared → Prop} {s : Shared}
theorem split_one {x : Str} {t u v : Tok} {Q : Value → Shared → Prop} (hx : Builtin.Str.occurrences x (Str.ofString "}") 0 x.length 1 = []) (h : Q (.ref s.heap.objs.size) { s with heap := s.heap.push (W.listOf #[.str x t] 0) }) :
    wpAny (model prog w) A (call (.builtin "str.split") [.str x t, .str (Str.ofString "}") u, .int 1 v]) Q E s := by
  refine @Mine.sqz _ ?zmain ?zfin
  case zmain =>
    refine wpAny_call_entry F.slot_str_split (typeIs_str _ _ _) F.entry_str_split ?_ (F.args_str_split_3 _ _ _)
    obtain ⟨raising, htree⟩ := split_tree x (Str.ofString "}") t u v
    rw [htree]
    have fin : ∀ {l : String}, wpAny (model prog w) A.in1 (do rule l; ret (← newList [.str x t])) (fun fin s' => ∃ v, fin = PySem.Fin.done (.ret v) ∧ Q v s') E s := fun {l} =>
      wpAny_bind (wpAny_rule (wpAny_bind (wpAny_newList (wpAny_pure ⟨_, rfl, h⟩) (by show 1 ≤ sizeLine; decide))))
    refine wpAny_ite_split (fun _ => fin) (fun _ => ?_)
    rw [hx]
    exact fin
  case zfin => run_tac Mine.sq
theorem eq_strs_ne {x k : Str} {t t1 : Tok} {Q : Bool → Shared → Prop} (hne : x ≠ k) (h : Q false s) : wpAny (model prog w) A (eqBool (.str x t) (.str k t1)) Q E s := by
  refine wpAny_eqBool_str ?_
  rw [decide_eq_false hne]
  exact h
/-- lists of one text each are compared by their texts -/
theorem lists_lt {l1 l2 : Addr} {x k : Str} {t t1 : Tok} {n1 n2 : Nat} {Q : Bool → Shared → Prop} (hu : A.units < cLine) (h1 : s.heap.get? l1 = some (W.listOf #[.str x t] n1)) (h2 : s.heap.get? l2 = some (W.listOf #[.str k t1] n2)) (hne : x ≠ k)
    (h : Q (decide (x.cps.toList < k.cps.toList)) s) : wpAny (model prog w) A (PyProof.Rows.oneLt' true (.ref l1) (.ref l2)) Q E s := by
  refine @Mine.sqz _ ?zmain ?zfin
  case zmain =>
    have hT1 : s.TypeIs (.ref l1) "list" := ⟨_, h1, rfl⟩
    have hT2 : s.TypeIs (.ref l2) "list" := ⟨_, h2, rfl⟩
    rw [PyProof.Rows.oneLt'_eq]
    simp only [if_true]
    refine wpAny_bind (wpAny_cRoomFor hu ?_)
    refine wpAny_bind (wpAny_callSpecialIfBound?_slot hT1 F.slot_list_lt (wpAny_call (codeAny_call_builtin F.slot_list_lt.plain F.entry_list_lt (F.slot_list_lt.check _ _ _ _ _ _ _ _ hT1 (F.args_list_lt_2 _ _) ?_))))
    show wpAny _ _ (isInstance (.ref l2) (.type "list") >>= _) _ _ _
    refine wpAny_bind (wpAny_isInstance (T := "list") (b := true) hT2 (by rw [isSubtype_type]; kernel_rfl) ?_)
    have hlp : plainId "list.__eq__.loop" = true := MeetsSeq3.plain_eq_loop
    refine wpAny_pure ⟨plainId_quiet hlp _, codeAny_builtin MeetsSeq3.entry_eq_loop ?_⟩
    rw [Around.under_plainId hlp _]
    show wpAny _ _ (Builtin.List.listItems (.ref l1) >>= _) _ _ _
    refine wpAny_bind (PyProof.Rows.listItems_at h1 rfl ?_)
    refine wpAny_bind (PyProof.Rows.listItems_at h2 rfl ?_)
    show wpAny _ _ (eqBool (.str x t) (.str k t1) >>= _) _ _ _
    refine wpAny_bind (eq_strs_ne hne ?_)
    show wpAny _ _ (Builtin.List.listItems (.ref l1) >>= _) _ _ _
    refine wpAny_bind (PyProof.Rows.listItems_at h1 rfl ?_)
    refine wpAny_bind (PyProof.Rows.listItems_at h2 rfl ?_)
    refine wpAny_bind (m := compareOp .Lt (.str x t) (.str k t1)) (PySem.P.lt_str ?_)
    refine wpAny_pure ?_
    exact wpAny_truthy_bool h
  case zfin => run_tac Mine.sq
end
end Mine

theorem Mine.use_M72 : True := by
  w_top off
  run_tac Mine.use ["linesP", "linesZZ"]
  trivial
namespace Mine
open PyProof.Rows
/-- what the key of the sort does: a list of the name alone -/
noncomputable def SplitSpec (w : World) (kf : Addr) (C : List (Addr × Obj)) : Prop :=
  ∀ {A₀ : Around} {base h₀ : Heap} {outer : List Env} {env : Env} {L : Addr} {m : Str → Option Value} {s : Shared} {lo : List Str} {me : ExcName → Option Value} {mg mb : Str → Option Value} {R : Result → Shared → Prop} {d u : Nat} {gd : Option (List Code)} {x : Str} {t : Tok} {news : List (Addr × Obj)},
    Below A₀ base outer h₀ → Fr h₀ L s.heap m → (Mine.hd.heap_39 w.params).In h₀ → News h₀ L s.heap news → Top topProg lo me mg mb h₀ → env.frame = some L → env.scope.kind = .function → d < 800 → u < 800 → (∀ p ∈ C, p ∈ news) →
    Builtin.Str.occurrences x (Str.ofString "}") 0 x.length 1 = [] →
    (∀ D h' tk', Fr h₀ L h' m → News h₀ L h' ((D, W.listOf #[.str x t] 0) :: news) → (∀ p ∈ news, p.1 < D) → R (.ok (.ret (.ref D))) (St s h' s.gens tk')) →
    codeAny (model Challenge.rw_if0017_01.row.prog w) (Around.mk none d (some (env :: outer)) gd u) (.call (.ref kf) ⟨[.str x t], []⟩) R s
theorem SplitSpec.use {w : World} {kf : Addr} {C : List (Addr × Obj)} (hs : SplitSpec w kf C) {A₀ : Around} {base h₀ : Heap} {outer : List Env} {env : Env} {L : Addr} {m : Str → Option Value} {s : Shared} {lo : List Str} {me : ExcName → Option Value} {mg mb : Str → Option Value} {R : Result → Shared → Prop} {d u : Nat} {gd : Option (List Code)} {x : Str} {t : Tok} {news : List (Addr × Obj)}
    (B : Below A₀ base outer h₀) (F : Fr h₀ L s.heap m) (X : (Mine.hd.heap_39 w.params).In h₀) (N : News h₀ L s.heap news) (T : Top topProg lo me mg mb h₀) (hf : env.frame = some L) (hke : env.scope.kind = .function) (hd : d < 800) (hu : u < 800) (hC : ∀ p ∈ C, p ∈ news)
    (hx : Builtin.Str.occurrences x (Str.ofString "}") 0 x.length 1 = [])
    (h : ∀ D h' tk', Fr h₀ L h' m → News h₀ L h' ((D, W.listOf #[.str x t] 0) :: news) → (∀ p ∈ news, p.1 < D) → R (.ok (.ret (.ref D))) (St s h' s.gens tk')) :
    codeAny (model Challenge.rw_if0017_01.row.prog w) (Around.mk none d (some (env :: outer)) gd u) (.call (.ref kf) ⟨[.str x t], []⟩) R s := hs B F X N T hf hke hd hu hC hx h
section
variable {prog : Program} {w : World} {A : Around} {E : Value → Shared → Prop} {s : Shared} {h₀ : Heap} {L kS a S : Addr} {m : Str → Option Value} {news : List (Addr × Obj)} {es : Array (Int × Value)} {ep : Nat} {t : SetTable}
/-- sorted() of a set by a key: the list is made, the sort still to come -/
theorem sorted_set {kf : Addr} {Q : Value → Shared → Prop} (hh : A.handled = none) (F : Fr h₀ L s.heap m) (N : News h₀ L s.heap news) (hS : s.heap.get? S = some (setO es ep t)) (cw : CanWalk w es t)
    (h : ∀ vs D h' tk dr, List.Perm vs (es.toList.map (·.2)) → Fr h₀ L h' m → News h₀ L h' news → h'.get? D = some (seqObj "list" vs.toArray 0) → L < D → (∀ p ∈ news, p.1 < D) → h₀.get? D = none →
      wpAny (model prog w) A.in1.in1 (ksk_tree D (.ref kf) false) (fun fin s' => ∃ v, fin = .done (.ret v) ∧ Q (.ref D) s') E { s with heap := h', toks := tk, drawn := dr }) :
    wpAny (model prog w) A (call (.builtin "sorted") [.ref S] [(Str.ofString "key", .ref kf)]) Q E s := by
  refine @Mine.sqz _ ?zmain ?zfin
  case zmain =>
    refine call_function_entry_kw kind_sorted plain_sorted entry_sorted (ksk_s1 _ _) ?_
    unfold Builtin.«sorted»
    refine wpAny_bind (m := checkCount "sorted" 1 1 _) (wpAny_pure ?_)
    refine wpAny_bind (collect_set (A := A.in1) (by simp [hh]) hS cw fun vs h' tk dr hp hk => ?_)
    have hlen : vs.length ≤ 2 := by rw [hp.length_eq, List.length_map, Array.length_toList]; exact cw.2.1
    refine wpAny_bind (wpAny_newList ?_ (by rw [sizeLine_eq]; omega))
    have hoL : (h'.push (seqObj "list" vs.toArray 0)).get? h'.objs.size = some (seqObj "list" vs.toArray 0) := Heap.get?_push_size _ rfl
    have F' := (F.keeps hk).push (seqObj "list" vs.toArray 0)
    have N' : News h₀ L (h'.push (seqObj "list" vs.toArray 0)) news := fun p hp => ⟨Heap.get?_push_of_some _ (hk _ _ (N p hp).1), (N p hp).2⟩
    have hLl : L < h'.objs.size := (F.keeps hk).ns.lt
    refine wpAny_bind (wpAny_holding (wpAny_call_entry_kw slot_list_sort ⟨_, hoL, rfl⟩ entry_list_sort ?body (ksk_l1 _ _)))
    case body =>
      show wpAny (model prog w) A.in1.in1 (Builtin.«list.sort» ⟨[.ref h'.objs.size], [(Str.ofString "key", .ref kf)]⟩) _ _ _
      rw [ksk_t1]
      refine wpAny_mono (h vs _ _ tk dr hp F' N' hoL hLl (fun p hp => Heap.lt_size (hk _ _ (N p hp).1)) (Heap.get?_none_of_le (Nat.le_trans F.above (Nat.le_of_lt hLl)))) (fun fin s' hx => ?_) fun _ _ x => x
      obtain ⟨v, rfl, hq⟩ := hx
      exact ⟨_, rfl, wpAny_pure ⟨_, rfl, hq⟩⟩
  case zfin => run_tac Mine.sq
end
end Mine

theorem Mine.use_M72b : True := by
  w_top off
  run_tac Mine.use ["linesP", "lines", "linesZZ"]
  trivial
namespace Mine
open PyProof.Rows
theorem units_ok {u : Nat} (h : u < 900) : u < cLine := by unfold cLine; omega
section
theorem Mine.row_M72b_72b_two_0 : True := by
  k_with "@72b_two_0@call ref" => ((k_here; k_dflt (refine' wpAny_call (Mine.SplitSpec.use ?cS ?cB ?cF ?cX ?cN ?cT ?cf ?ck ?cd ?cu ?cC ?c1 ?_); (case cS => assumption); (case cB => k_asm); (case cF => k_asm); (case cX => k_asm); (case cN => k_asm); (case cT => k_asm); (case cf => assumption); (case ck => assumption); (case cd => ((try dsimp only [Around.deeper, Around.in1]); first | exact Nat.lt_of_lt_of_le (by assumption) (by decide) | exact Nat.lt_of_lt_of_le (Nat.succ_lt_succ (by assumption)) (by decide) | exact Nat.lt_of_lt_of_le (Nat.succ_lt_succ (Nat.succ_lt_succ (by assumption))) (by decide) | omega)); (case cu => ((try dsimp only [Around.deeper, Around.in1]); first | exact Nat.lt_of_lt_of_le (by assumption) (by decide) | exact Nat.lt_of_lt_of_le (Nat.succ_lt_succ (by assumption)) (by decide) | exact Nat.lt_of_lt_of_le (Nat.succ_lt_succ (Nat.succ_lt_succ (by assumption))) (by decide) | omega)); (case cC => first | assumption | exact Mine.sub2 (by assumption) (by intro p hp; repeat' (first | exact hp | exact List.mem_append_left _ hp | refine List.Mem.tail _ ?_))); (case c1 => assumption)); intro D' h' tk' F' N' l1; (try dsimp only); (try k_lt l1)))
  k_with "@72b_two_0@keyLt'" => ((k_here; k_dflt (refine' Mine.lists_lt ?cu ?c1 ?c2 ?c3 ?_; (case cu => exact Mine.units_ok (by (try dsimp only [Around.deeper, Around.in1]); omega)); (case c1 => exact News.get (by k_asm) (by run_tac Mine.memT)); (case c2 => exact News.get (by k_asm) (by run_tac Mine.memT)); (case c3 => assumption))))
  trivial

theorem Mine.use_M72b_72b_two_0 : True := by
  w_top off
  run_tac Mine.use ["linesP", "lines", "linesZZ", "72b_two_0"]
  trivial

theorem kind_lists {M : Model} {A : Around} {E : Value → Shared → Prop} {s : Shared} {h₀ : Heap} {L l1 l2 : Addr} {news : List (Addr × Obj)} {i1 i2 : Array Value} {n1 n2 : Nat} {Q : SortKind → Shared → Prop} (N : News h₀ L s.heap news) (h1 : (l1, W.listOf i1 n1) ∈ news) (h2 : (l2, W.listOf i2 n2) ∈ news)
    (h : Q oneType' s) : wpAny M A (keyKind' (List.toArray [.ref l1, .ref l2])) Q E s := by
  refine @Mine.sqz _ ?zmain ?zfin
  case zmain =>
    refine kas_kind (T := .type "list") (Nat.le_refl 2) (fun v hv => ?_) (by decide) (by decide) h
    simp only [List.mem_cons, List.not_mem_nil, or_false] at hv
    rcases hv with rfl | rfl
    · exact (Looks.ld (N _ h1).1).andThen .now
    · exact (Looks.ld (N _ h2).1).andThen .now
  case zfin => run_tac Mine.sq
theorem Mine.row_M72b_72b_two_1 : True := by
  k_with "@72b_two_1@keyKind'" => ((k_here; k_dflt (refine' Mine.kind_lists ?c1 ?c2 ?c3 ?_; (case c1 => k_asm); (case c2 => run_tac Mine.memT); (case c3 => run_tac Mine.memT))))
  trivial

theorem Mine.use_M72b_72b_two_1 : True := by
  w_top off
  run_tac Mine.use ["linesP", "lines", "linesZZ", "72b_two_0", "72b_two_1"]
  trivial

theorem one_keyed {prog : Program} {w : World} {A : Around} {E : Value → Shared → Prop} {s : Shared} {h₀ : Heap} {L a : Addr} {m : Str → Option Value} {news : List (Addr × Obj)} {v f : Value} {n : Nat} {P : PySem.Fin → Shared → Prop} (F : Fr h₀ L s.heap m) (N : News h₀ L s.heap news) (ho : s.heap.get? a = some (seqObj "list" (List.toArray [v]) n)) (haL : a ≠ L) (ha0 : h₀.get? a = none) (hna : ∀ p ∈ news, p.1 ≠ a)
    (h : ∀ kS e1 h', Fr h₀ L h' m → News h₀ L h' ((kS, seqObj "list" #[] 0) :: (a, seqObj "list" #[] e1) :: news) → a < kS → (∀ q ∈ news, q.1 < kS) →
      KatKeys prog w A h₀ L m kS f (fun ks e s' => KatFin h₀ L m kS a ks e e1 [v] (fun s4 => P (.done (.ret .none)) s4) s') [v] [] 0 { s with heap := h' }) :
    wpAny (model prog w) A (ksk_tree a f false) P E s := by
  refine @Mine.sqz _ ?zmain ?zfin
  case zmain =>
    have ha : a < s.heap.objs.size := Heap.lt_size ho
    have s1 := Heap.SameBut.update s.heap a (Obj.mapSeq fun _ => (#[] : Array Value))
    obtain ⟨e1, ho1⟩ : ∃ e1, (s.heap.update a (Obj.mapSeq fun _ => (#[] : Array Value))).get? a = some (seqObj "list" #[] e1) := ⟨_, get?_update_seq ho fun _ => #[]⟩
    have F1 := kas_fr F s1 haL ha0
    have N1 := kas_news N s1 hna
    have hkS : ((s.heap.update a (Obj.mapSeq fun _ => (#[] : Array Value))).push (seqObj "tuple" (List.toArray [v]) 0)).objs.size = s.heap.objs.size + 1 := by rw [Heap.size_push, Heap.size_update]
    have hLk : L < ((s.heap.update a (Obj.mapSeq fun _ => (#[] : Array Value))).push (seqObj "tuple" (List.toArray [v]) 0)).objs.size := (F1.push _).ns.lt
    unfold ksk_tree
    refine wpAny_bind (listItems_at ho rfl ?_)
    refine wpAny_bind (listUpdate_at ho rfl ?_ (by rw [sizeLine_eq]; show 1 ≤ _; omega) (Nat.zero_le _))
    refine wpAny_bind (seqEpoch_at ho1 rfl ?_)
    refine wpAny_bind (wpAny_newTuple ?_ (by show 1 ≤ _; rw [sizeLine_eq]; omega))
    refine wpAny_bind (wpAny_newList ?_ (Nat.zero_le _))
    refine wpAny_holding ?_
    have key := h ((s.heap.update a (Obj.mapSeq fun _ => (#[] : Array Value))).push (seqObj "tuple" (List.toArray [v]) 0)).objs.size e1 (((s.heap.update a (Obj.mapSeq fun _ => (#[] : Array Value))).push (seqObj "tuple" (List.toArray [v]) 0)).push (seqObj "list" #[] 0)) ((F1.push _).push _) (fun p hp => by
      rcases List.mem_cons.mp hp with rfl | hp
      · exact ⟨Heap.get?_push_size _ rfl, Nat.ne_of_gt hLk, Heap.get?_none_of_le (Nat.le_trans F.above (Nat.le_of_lt hLk))⟩
      · rcases List.mem_cons.mp hp with rfl | hp
        · exact ⟨Heap.get?_push_of_some _ (Heap.get?_push_of_some _ ho1), haL, ha0⟩
        · exact ⟨Heap.get?_push_of_some _ (Heap.get?_push_of_some _ (N1 p hp).1), (N1 p hp).2⟩) (by rw [hkS]; exact Nat.lt_succ_of_lt ha) (fun q hq => by rw [hkS]; exact Nat.lt_succ_of_lt (Heap.lt_size (N q hq).1))
    unfold ksk_rest
    refine wpAny_bind (wpAny_rule ?_)
    have hx : wpAny (model prog w) A (call f [v]) (KatBack h₀ L m ((s.heap.update a (Obj.mapSeq fun _ => (#[] : Array Value))).push (seqObj "tuple" (List.toArray [v]) 0)).objs.size [] 0 (fun k c s' => KatFin h₀ L m ((s.heap.update a (Obj.mapSeq fun _ => (#[] : Array Value))).push (seqObj "tuple" (List.toArray [v]) 0)).objs.size a [k] c e1 [v] (fun s4 => P (.done (.ret .none)) s4) s')) (fun _ _ => False) _ := key
    clear key
    rw [List.forIn_toArray, List.forIn_cons]
    refine wpAny_bind (wpAny_bind (wpAny_bind (wpAny_attempt (wpAny_mono hx (fun k s'' hk => ?_) fun _ _ hF => hF.elim))))
    obtain ⟨news', g, F', N', U, c⟩ := hk
    obtain ⟨pre, post, e0, hg, x1, x2⟩ := U.split
    rw [e0] at N'
    generalize hkq : ((s.heap.update a (Obj.mapSeq fun _ => (#[] : Array Value))).push (seqObj "tuple" (List.toArray [v]) 0)).objs.size = kS at *
    have nk := N' (kS, seqObj "list" (List.toArray []) 0) (List.mem_append_right _ (.head _))
    have s2 := Heap.SameBut.update s''.heap kS (Obj.mapSeq (·.push k))
    obtain ⟨c2, hc2⟩ : ∃ c2, (s''.heap.update kS (Obj.mapSeq (·.push k))).get? kS = some (seqObj "list" (List.toArray [k]) c2) := ⟨_, get?_update_seq nk.1 (·.push k)⟩
    try dsimp only
    refine wpAny_bind (listUpdate_at nk.1 rfl ?_ (Nat.zero_le _) (by rw [sizeLine_eq]; show 1 ≤ _; omega))
    have fin := c _ c2 (kas_fr F' s2 nk.2.1 nk.2.2) (by rw [hg]; exact news_set N' x1 x2 s2 hc2)
    refine wpAny_pure ?_
    dsimp only
    rw [List.forIn_nil]
    refine wpAny_pure ?_
    refine wpAny_bind (listItems_at (s := { s'' with heap := s''.heap.update kS (Obj.mapSeq (·.push k)) }) hc2 rfl ?_)
    unfold ksk_end
    simp only [Bool.false_eq_true, if_false]
    have hn2 : (List.toArray [v]).size < 2 := by show 1 < 2; omega
    rw [if_pos hn2, if_pos hn2]
    refine wpAny_bind (wpAny_pure ?_)
    rw [StateT.run_pure]
    refine wpAny_bind (wpAny_pure ?_)
    exact kat_tail (ks := [k]) (out := [v]) (show ((List.toArray [k]).zip (List.toArray [v])).map (·.2) = List.toArray [v] by simp) (by show 1 < 64; omega) (by show 1 < 64; omega) rfl fin
  case zfin => run_tac Mine.sq
theorem sort_two {w : World} {A₀ : Around} {base h₀ : Heap} {outer : List Env} {env : Env} {L : Addr} {m : Str → Option Value} {s : Shared} {lo me} {mg mb} {E : Value → Shared → Prop} {Q : Value → Shared → Prop} {d u : Nat} {gd : Option (List Code)}
  {S kf : Addr} {so : Obj} {x k : Str} {t t1 : Tok} {news C : List (Addr × Obj)}
  (B : Below A₀ base outer h₀) (F : Fr h₀ L s.heap m) (X : (Mine.hd.heap_39 w.params).In h₀) (N : News h₀ L s.heap news) (T0 : Top topProg lo me mg mb h₀) (hf : env.frame = some L) (hke : env.scope.kind = .function) (hd : d < 400) (hu : u < 400)
  (hS : (S, so) ∈ news) (hso : TwoOf w Challenge.rw_if0017_01.row.prog x k t t1 so) (hC : ∀ p ∈ C, p ∈ news) (hk : SplitSpec w kf C) (hne : x ≠ k) (hne2 : k ≠ x) (hlt : decide (x.cps.toList < k.cps.toList) = true) (hlt2 : decide (k.cps.toList < x.cps.toList) = false)
  (o1 : Builtin.Str.occurrences x (Str.ofString "}") 0 x.length 1 = []) (o2 : Builtin.Str.occurrences k (Str.ofString "}") 0 k.length 1 = [])
  (h : ∀ D c h' tk dr, Fr h₀ L h' m → News h₀ L h' ((D, W.listOf #[.str x t, .str k t1] c) :: news) → (∀ p ∈ news, p.1 < D) → Q (.ref D) { s with heap := h', toks := tk, drawn := dr }) :
  wpAny (model Challenge.rw_if0017_01.row.prog w) (Around.mk none d (some (env :: outer)) gd u) (call (.builtin "sorted") [.ref S] [(Str.ofString "key", .ref kf)]) Q E s := by
  refine @Mine.sqz _ ?zmain ?zfin
  case zmain =>
    obtain ⟨es, ep, t', rfl, hp, hfit, hpl⟩ := hso
    have hsz : es.size = 2 := by rw [← Array.length_toList, hp.length_eq]; rfl
    refine sorted_set rfl F N (N _ hS).1 ⟨hfit, Nat.le_of_eq hsz, fun _ => .inl ⟨hsz, hpl⟩⟩ fun vs D h' tk dr hp2 F' N' hoL hLD hltD h0 => ?_
    have hp3 : List.Perm vs [.str x t, .str k t1] := hp2.trans (hp.map _)
    clear hp2
    have hlt' := of_decide_eq_true hlt
    have hlt2' := of_decide_eq_false hlt2
    rcases ksk_perm2 hp3 with rfl | rfl
    · refine kat_keyed F' N' hoL (Nat.ne_of_gt hLD) h0 (fun p hp => Nat.ne_of_lt (hltD p hp)) (Nat.le_refl 2) (show 2 < 64 by omega) fun kS e1 h2 F2 N2 l0 l1 => ?_
      replace l1 : AllLt kS news := allLt_of l1
      replace l0 := ltN l0
      revert X; k_fill; intro X
      k_steps
      all_goals first | contradiction | (rename_i kF kN; exact h D _ _ _ _ kF (fun p hp => kN p (.tail _ (.tail _ (.tail _ hp)))) hltD)
    · refine kat_keyed F' N' hoL (Nat.ne_of_gt hLD) h0 (fun p hp => Nat.ne_of_lt (hltD p hp)) (Nat.le_refl 2) (show 2 < 64 by omega) fun kS e1 h2 F2 N2 l0 l1 => ?_
      replace l1 : AllLt kS news := allLt_of l1
      replace l0 := ltN l0
      revert X; k_fill; intro X
      k_steps
      all_goals first | contradiction | (rename_i kF kN; exact h D _ _ _ _ kF (fun p hp => kN p (.tail _ (.tail _ (.tail _ hp)))) hltD)
  case zfin => run_tac Mine.sq
/-- one name: the key is asked for, nothing to sort -/
theorem sort_one {w : World} {A₀ : Around} {base h₀ : Heap} {outer : List Env} {env : Env} {L : Addr} {m : Str → Option Value} {s : Shared} {lo me} {mg mb} {E : Value → Shared → Prop} {Q : Value → Shared → Prop} {d u : Nat} {gd : Option (List Code)}
  {S kf : Addr} {x : Str} {t : Tok} {ep j : Nat} {hx : Int} {news C : List (Addr × Obj)}
  (B : Below A₀ base outer h₀) (F : Fr h₀ L s.heap m) (X : (Mine.hd.heap_39 w.params).In h₀) (N : News h₀ L s.heap news) (T0 : Top topProg lo me mg mb h₀) (hf : env.frame = some L) (hke : env.scope.kind = .function) (hd : d < 400) (hu : u < 400)
  (hS : (S, setO #[(hx, .str x t)] ep (oneTab (ledOf w) j)) ∈ news) (hC : ∀ p ∈ C, p ∈ news) (hk : SplitSpec w kf C)
  (o1 : Builtin.Str.occurrences x (Str.ofString "}") 0 x.length 1 = [])
  (h : ∀ D c h' tk dr, Fr h₀ L h' m → News h₀ L h' ((D, W.listOf #[.str x t] c) :: news) → (∀ p ∈ news, p.1 < D) → Q (.ref D) { s with heap := h', toks := tk, drawn := dr }) :
  wpAny (model Challenge.rw_if0017_01.row.prog w) (Around.mk none d (some (env :: outer)) gd u) (call (.builtin "sorted") [.ref S] [(Str.ofString "key", .ref kf)]) Q E s := by
  refine @Mine.sqz _ ?zmain ?zfin
  case zmain =>
    refine sorted_set rfl F N (N _ hS).1 ⟨rfl, Nat.le_succ 1, fun hb => .inr ⟨_, j, rfl, by rw [show ledOf w = true by show (!_) = true; rw [hb]; rfl]⟩⟩ fun vs D h' tk dr hp2 F' N' hoL hLD hltD h0 => ?_
    obtain rfl : vs = [.str x t] := List.perm_singleton.mp hp2
    refine one_keyed F' N' hoL (Nat.ne_of_gt hLD) h0 (fun p hp => Nat.ne_of_lt (hltD p hp)) fun kS e1 h2 F2 N2 l0 l1 => ?_
    replace l1 : AllLt kS news := allLt_of l1
    replace l0 := ltN l0
    revert X; k_fill; intro X
    k_steps
    rename_i kF kN
    exact h D _ _ _ _ kF (fun p hp => kN p (.tail _ (.tail _ hp))) hltD
  case zfin => run_tac Mine.sq
end
end Mine

theorem Mine.use_M73 : True := by
  w_top off
  run_tac Mine.use ["linesP", "linesZZ"]
  trivial
namespace Mine
section
variable {prog : Program} {w : World} {A : Around} {E : Value → Shared → Prop} {s : Shared} {h₀ : Heap} {L S : Addr} {m : Str → Option Value} {news : List (Addr × Obj)} {g : Obj → List (Addr × Obj)} {env : Env}
/-- {e1, *e2} -/
theorem disp_star {K : Frag} {e1 e2 : Expr} {pos p2 : Pos} {Q : Value → Shared → Prop} (F : Fr h₀ L s.heap m) (N : News h₀ L s.heap news) (X : K.In h₀) (hc : kdsCode K env.code = true)
    (hs1 : starEach [e1, .Starred e2 p2] env = [(false, eval e1 env), (true, eval e2 env)])
    (h : ∀ D h', Fr h₀ L h' m → News h₀ L h' ((D, setO #[] 0 (.fresh 0 0 (ledOf w))) :: news) → (∀ p ∈ news, p.1 < D) →
      wpAny (model prog w) A (eval e1 env) (fun v s1 => wpAny (model prog w) A (setAdd D v) (fun _ s2 => wpAny (model prog w) A (eval e2 env) (fun v2 s3 => wpAny (model prog w) A (setDisplayStar D v2) (fun _ s4 => Q (.ref D) s4) E s3) E s2) E s1) E { s with heap := h' }) :
    wpAny (model prog w) A (eval (.Set [e1, .Starred e2 p2] 0 pos) env) Q E s := by
  refine @Mine.sqz _ ?zmain ?zfin
  case zmain =>
    rw [arm_eval_Set]
    refine wpAny_bind (wpAny_standAt ?_)
    refine wpAny_bind (kds_main (X.keeps F.keep) hc fun b => ?_)
    rw [hs1]
    have hroad : displayRoad 0 [e1, .Starred e2 p2] = .oneByOne := rfl
    rw [hroad]
    unfold setDisplay
    dsimp only
    rw [if_neg (show ¬ ((DisplayRoad.oneByOne == DisplayRoad.constants) = true) by decide)]
    refine wpAny_bind (new_set_raw ?_)
    dsimp only
    have hN := h s.heap.objs.size _ (F.push _) (News.push F N (setO #[] 0 (.fresh 0 0 (ledOf w))) rfl) (fun p hp => Heap.lt_size (N p hp).1)
    have main : wpAny (model prog w) A (evalAll [(do let v ← eval e1 env; standAt pos; pure v : Sem Value)]) (fun first s1 => ∃ v, first = [v] ∧ wpAny (model prog w) A (setAdd s.heap.objs.size v) (fun _ s2 => wpAny (model prog w) A (eval e2 env) (fun v2 s3 => wpAny (model prog w) A (setDisplayStar s.heap.objs.size v2) (fun _ s4 => Q (.ref s.heap.objs.size) s4) E s3) E s2) E s1) E { s with heap := s.heap.push (setO #[] 0 (.fresh 0 0 (ledOf w))) } := by
      show wpAny (model prog w) A ((eval e1 env >>= fun v => standAt pos >>= fun _ => pure v) >>= fun v => holding [v] (evalAll []) >>= fun r => pure (v :: r)) _ E _
      refine wpAny_bind (wpAny_bind (wpAny_mono hN (fun v s' h' => ?_) fun _ _ x => x))
      refine wpAny_bind (wpAny_standAt (wpAny_pure ?_))
      exact wpAny_bind (wpAny_holding (wpAny_pure (wpAny_pure ⟨v, rfl, h'⟩)))
    refine wpAny_bind (wpAny_holding ?_)
    refine wpAny_bind (m := evalAll [(do let v ← eval e1 env; standAt pos; pure v : Sem Value)]) (wpAny_mono main (fun first s1 hf => ?_) fun _ _ x => x)
    obtain ⟨v, rfl, hv⟩ := hf
    refine wpAny_bind (wpAny_holding ?_)
    rw [List.forIn_cons]
    refine wpAny_bind (wpAny_bind (wpAny_bind (wpAny_mono hv (fun _ s2 h2 => ?_) fun _ _ x => x)))
    refine wpAny_pure ?_
    dsimp only
    rw [List.forIn_nil]
    refine wpAny_pure ?_
    rw [if_neg (show ¬ ((DisplayRoad.oneByOne == DisplayRoad.unsure) = true) by decide)]
    refine wpAny_pure ?_
    show wpAny (model prog w) A (forIn [((true, (do let v ← eval e2 env; standAt pos; pure v)) : Bool × Sem Value)] PUnit.unit _ >>= _) _ _ _
    rw [List.forIn_cons]
    refine wpAny_bind (wpAny_bind (wpAny_bind (wpAny_bind (wpAny_mono h2 (fun v2 s3 h3 => ?_) fun _ _ x => x))))
    refine wpAny_bind (wpAny_standAt (wpAny_pure ?_))
    rw [if_pos rfl]
    refine wpAny_bind (wpAny_holding (wpAny_mono h3 (fun _ s4 h4 => ?_) fun _ _ x => x))
    refine wpAny_pure ?_
    dsimp only
    rw [List.forIn_nil]
    exact wpAny_pure (wpAny_pure (wpAny_pure h4))
  case zfin => run_tac Mine.sq
theorem add_first_K {x : Str} {t : Tok} {led : Bool} {Q : Bool → Shared → Prop} (F : Fr h₀ L s.heap m) (N : News h₀ L s.heap news) (U : UpdF S (setO #[] 0 (.fresh 0 0 led)) news g)
    (h : ∀ j h', Fr h₀ L h' m → News h₀ L h' (g (setO #[((strKind prog w).hash x, .str x t)] 1 (oneTab led j))) → Q true { s with heap := h', toks := s.toks + 1 }) :
    wpAny (model prog w) A (setAdd S (.str x t)) Q E s := by
  refine @Mine.sqz _ ?zmain ?zfin
  case zmain =>
    obtain ⟨pre, post, rfl, hg, a, b⟩ := U.split
    have hm := N (S, setO #[] 0 (.fresh 0 0 led)) (List.mem_append_right _ (.head _))
    refine add_first hm.1 fun j h' hsb ho' => ?_
    exact h j h' (F.change hsb hm.2.1 hm.2.2) (hg _ ▸ N.setIn a b hsb ho')
  case zfin => run_tac Mine.sq
theorem star_none_K {d : Addr} {od : Obj} {x : Str} {t : Tok} {ep j : Nat} {led : Bool} {Q : Unit → Shared → Prop} (hh : A.handled = none) (F : Fr h₀ L s.heap m) (N : News h₀ L s.heap news)
    (hS : (S, setO #[((strKind prog w).hash x, .str x t)] ep (oneTab led j)) ∈ news) (hd : (d, od) ∈ news) (hod : od.IsDictOf (strKind prog w) []) (lo : (d == sysModules) = false)
    (h : ∀ h' tk, Fr h₀ L h' m → News h₀ L h' news → Q () { s with heap := h', toks := tk }) :
    wpAny (model prog w) A (setDisplayStar S (.ref d)) Q E s :=
  star_none hh lo (N _ hS).1 (Heap.dictOf_iff.mpr ⟨od, (N _ hd).1, hod⟩) fun h' tk hk => h h' tk (F.keeps hk) fun p hp => ⟨hk _ _ (N p hp).1, (N p hp).2⟩
theorem star_one_K {d : Addr} {od : Obj} {x k : Str} {t : Tok} {v : Value} {ep j : Nat} {led : Bool} {Q : Unit → Shared → Prop} (hh : A.handled = none) (F : Fr h₀ L s.heap m) (N : News h₀ L s.heap news)
    (U : UpdF S (setO #[((strKind prog w).hash x, .str x t)] ep (oneTab led j)) news g) (hd : (d, od) ∈ news) (hod : od.IsDictOf (strKind prog w) [(k, v)]) (lo : (d == sysModules) = false) (hne : x ≠ k)
    (h : ∀ h' tk t1 o, Fr h₀ L h' m → News h₀ L h' (g o) → TwoOf w prog x k t t1 o → Q () { s with heap := h', toks := tk }) :
    wpAny (model prog w) A (setDisplayStar S (.ref d)) Q E s := by
  refine @Mine.sqz _ ?zmain ?zfin
  case zmain =>
    obtain ⟨pre, post, rfl, hg, a, b⟩ := U.split
    have hm := N (S, setO #[((strKind prog w).hash x, .str x t)] ep (oneTab led j)) (List.mem_append_right _ (.head _))
    refine star_one hh lo hne hm.1 (Heap.dictOf_iff.mpr ⟨od, (N _ hd).1, hod⟩) fun h' tk t1 o hk ho htw => ?_
    refine h h' tk t1 o ⟨F.ns.at fun o' e => hk L o' (Ne.symm hm.2.1) e, fun b' o' e => hk b' o' (fun q => by rw [q, hm.2.2] at e; cases e) (F.keep b' o' e), F.above⟩ ?_ htw
    rw [hg]
    intro p hp
    rcases List.mem_append.mp hp with hp | hp
    · have n := N p (List.mem_append_left _ hp)
      exact ⟨hk _ _ (a p hp) n.1, n.2⟩
    · rcases List.mem_cons.mp hp with rfl | hp
      · exact ⟨ho, hm.2⟩
      · have n := N p (List.mem_append_right _ (.tail _ hp))
        exact ⟨hk _ _ (b p hp) n.1, n.2⟩
  case zfin => run_tac Mine.sq
end
end Mine

theorem Mine.use_M74 : True := by
  w_top off
  run_tac Mine.use ["linesP", "linesZZ"]
  trivial
namespace Mine
open PyProof.Rows
section
variable {prog : Program} {w : World} {A : Around} {E : Value → Shared → Prop} {s : Shared} {h₀ : Heap} {L : Addr} {m : Str → Option Value} {env : Env}
theorem isTabE_two {x k : Str} {t t1 : Tok} {o : Obj} (h : TwoOf w prog x k t t1 o) : isTabE o = false := by
  obtain ⟨es, ep, t', rfl, _⟩ := h
  rfl
theorem isTabE_dct {o : Obj} {kvs : List (Str × Value)} (h : o.IsDictOf (strKind prog w) kvs) : isTabE o = false := by
  obtain ⟨es, ep, _, hd, _⟩ := h
  exact isTabE_dict hd
/-- how a turn of a dict comprehension ends -/
noncomputable def DTurn (prog : Program) (w : World) (h₀ : Heap) (L : Addr) (m : Str → Option Value) (s : Shared) (I C D : Addr) (oI oC oD : Obj) (Φ : Str → Value → List (Addr × Obj) → Prop) (kv vv : Value) (s' : Shared) : Prop :=
  ∃ h' tk' news' k t, s' = { s with heap := h', toks := tk' } ∧ kv = .str k t ∧ Fr h₀ L h' m ∧ News h₀ L h' ((I, oI) :: (C, oC) :: (D, oD) :: news') ∧ (∀ p ∈ news', p.1 ≠ I ∧ p.1 ≠ C ∧ p.1 ≠ D) ∧ Φ k vv news'
theorem DTurn.intro {I C D : Addr} {oI oC oD : Obj} {Φ : Str → Value → List (Addr × Obj) → Prop} {vv : Value} {h' tk' news' k t} (F : Fr h₀ L h' m) (N : News h₀ L h' ((I, oI) :: (C, oC) :: (D, oD) :: news')) (off : ∀ p ∈ news', p.1 ≠ I ∧ p.1 ≠ C ∧ p.1 ≠ D) (φ : Φ k vv news') :
    DTurn prog w h₀ L m s I C D oI oC oD Φ (.str k t) vv { s with heap := h', toks := tk' } := ⟨h', tk', news', k, t, rfl, rfl, F, N, off, φ⟩
/-- the source of a dict comprehension: a list of the ledger -/
noncomputable def DSrc (prog : Program) (w : World) (A : Around) (h₀ : Heap) (L : Addr) (m : Str → Option Value) (env : Env) (kx vx : Expr) (x y : Str) (scope : Scope) (cl : List (Str × Addr)) (Q : Flow → Shared → Prop) (xv : Value) (s₁ : Shared) : Prop :=
  ∃ (ax : Addr) (its : Array Value) (n : Nat) (news : List (Addr × Obj)) (Φ : Nat → List (Str × Value) → List (Addr × Obj) → Prop), xv = .ref ax ∧ A.handled = none ∧ Fr h₀ L s₁.heap m ∧ News h₀ L s₁.heap news ∧ its.size ≤ 90 ∧ Φ 0 [] news ∧
    (∀ i kvs nw, Φ i kvs nw → (ax, W.listOf its n) ∈ nw ∧ kvs.length ≤ i) ∧
    (∀ i v kvs nw I C D oC oD m₂ h tk (E' : Value → Shared → Prop), its[i]? = some v → Φ i kvs nw → LCg.NsObj oC m₂ → m₂ x = some v → oD.IsDictOf (strKind prog w) kvs → Fr h₀ L h m → News h₀ L h ((I, iterO ax (i + 1)) :: (C, oC) :: (D, oD) :: nw) → (∀ p ∈ nw, p.1 ≠ I ∧ p.1 ≠ C ∧ p.1 ≠ D) → (@Ne Nat I C) ∧ (@Ne Nat I D) ∧ (@Ne Nat C D) →
      wpAny (model prog w) A (eval kx (compEnvC scope cl C env)) (fun kv s4 => wpAny (model prog w) A (eval vx (compEnvC scope cl C env)) (fun vv s5 =>
        DTurn prog w h₀ L m { s₁ with heap := h, toks := tk } I C D (iterO ax (i + 1)) oC oD (fun k vv nw' => Φ (i + 1) (stored kvs k vv) nw') kv vv s5) E' s4) E' { s₁ with heap := h, toks := tk }) ∧
    (∀ kvs nw D oD h tk, Φ its.size kvs nw → oD.IsDictOf (strKind prog w) kvs → Fr h₀ L h (fun z => if z = y then some (.ref D) else m z) → News h₀ L h ((D, oD) :: nw) → (∀ p ∈ nw, p.1 ≠ D) → Q .next { s₁ with heap := h, toks := tk })
theorem assign_dcomp {kx vx iter : Expr} {x y : Str} {px py : Pos} {scope : Scope} {cl : List (Str × Addr)} {pos spos : Pos} {Q : Flow → Shared → Prop} (F₀ : Fr h₀ L s.heap m) (hLe : env.locals = L)
    (hsw : swapsWith (.DictComp kx vx [⟨.Name x px, iter, [], 0⟩] scope pos) (some (.Name y py)) spos.line env = pure true)
    (hclos : closureFor scope env = pure cl) (hcell : ∀ z ∈ scope.names, z.2 ≠ .cell) (hkind : scope.kind = .function)
    (hnames : ∀ z ∈ scope.names, z.2 = .local → scope.names.lookup z.1 = some .local) (hx : scope.names.lookup x = some .local)
    (hy : env.kindOf y = some .local) (hp : (env.scope.kind == .class || (env.scope.kind == .module && env.locals != env.globals)) = false)
    (h : wpAny (model prog w) A (eval iter env) (DSrc prog w A h₀ L m env kx vx x y scope cl Q) E s)
    (hs : ∀ x, foldedSetIterable iter env x = pure x := by intro _; rfl) :
    wpAny (model prog w) A (exec (.Assign [.Name y py] (.DictComp kx vx [⟨.Name x px, iter, [], 0⟩] scope pos) spos) env) Q E s := by
  refine @Mine.sqz _ ?zmain ?zfin
  case zmain =>
    subst hLe
    rw [exec_Assign_Name_used _ _ _ _ hsw]
    refine wpAny_bind (wpAny_standAt (wpAny_bind ?_))
    show wpAny _ A (do let _ ← comprehension (.DictComp kx vx [⟨.Name x px, iter, [], 0⟩] scope pos) scope env _ newDict false (eval iter env) (some (assign (.Name y py) env))) _ _ s
    refine wpAny_bind (wpAny_mono (wpAny_comprehension_free (use := some (assign (.Name y py) env)) (Q := fun _ s' => Q .next s') rfl hs hclos hkind hnames
      (wpAny_mono h (fun xv s₁ h₁ => ?_) fun _ _ e => e)) (fun _ s' hq => wpAny_pure (wpAny_pure hq)) fun _ _ e => e)
    obtain ⟨ax, its, n, news, Φ, rfl, hh, F, N, hsz, hΦ, hmem, turn, done⟩ := h₁
    have hl : s₁.heap.IsList ax its := News.isList N (hmem 0 [] news hΦ).1
    have hlt : ax < s₁.heap.objs.size := by obtain ⟨_, e, _⟩ := hl; exact Heap.lt_size e
    refine wpAny_pyIter_list hl ?_
    have up : ∀ b o, s₁.heap.get? b = some o → (s₁.heap.push (iterO ax 0)).get? b = some o := fun b o e => Heap.get?_push_of_some _ e
    have F1 := F.keeps up
    have N1 := N.grown up
    have hI0 : (s₁.heap.push (iterO ax 0)).get? s₁.heap.objs.size = some (iterO ax 0) := Heap.get?_push_size _ rfl
    generalize hIe : s₁.heap.objs.size = I at hI0 ⊢
    have hLI : env.locals < I := hIe ▸ F.ns.lt
    have hnI : ∀ p ∈ news, p.1 < I := fun p hp => hIe ▸ Heap.lt_size (N p hp).1
    have fresh : ∀ b, env.locals < b → h₀.get? b = none := fun b hb => Heap.get?_none_of_le (Nat.le_trans F.above (Nat.le_of_lt hb))
    have hszI : (s₁.heap.push (iterO ax 0)).objs.size = I + 1 := by rw [Heap.size_push, hIe]
    generalize hH1 : s₁.heap.push (iterO ax 0) = H1 at F1 N1 hI0 hszI ⊢
    refine wpAny_newObj_type (wpAny_newFunctionEnv hcell (by intro y hy; simp at hy) (fun h₁ hns₁ hsb₁ => ?_) hkind)
    dsimp only at hns₁ hsb₁ ⊢
    have hnew : (H1.push { cls := .type "dict", dict := none, data := .dict #[] }).DictOf (strKind prog w) H1.objs.size [] := Heap.DictOf.new H1
    have hszD : (H1.push { cls := .type "dict", dict := none, data := .dict #[] }).objs.size = I + 1 + 1 := by rw [Heap.size_push, hszI]
    rw [hszI] at hnew ⊢
    have up2 : ∀ b o, H1.get? b = some o → (H1.push { cls := .type "dict", dict := none, data := .dict #[] }).get? b = some o := fun b o e => Heap.get?_push_of_some _ e
    generalize hH2 : H1.push { cls := .type "dict", dict := none, data := .dict #[] } = H2 at hns₁ hsb₁ hnew hszD up2 ⊢
    rw [hszD] at hns₁ hsb₁ ⊢
    have old : ∀ b o, b < I + 1 + 1 → H2.get? b = some o → h₁.get? b = some o := fun b o hb e => hsb₁.extBut b o (Nat.ne_of_lt hb) (Heap.get?_push_of_some _ e)
    obtain ⟨oD, hoD, hDd⟩ := Heap.dictOf_iff.mp hnew
    obtain ⟨oC, heC, hoC⟩ := LCg.ns_obj hns₁
    have F2 : Fr h₀ env.locals h₁ m := F1.keeps fun b o e => old b o (Nat.lt_of_lt_of_le (Heap.lt_size e) (by rw [hszI]; exact Nat.le_succ _)) (up2 b o e)
    have N2 : News h₀ env.locals h₁ ((I, iterO ax 0) :: (I + 1 + 1, oC) :: (I + 1, oD) :: news) := fun p hp => by
      rcases List.mem_cons.mp hp with rfl | hp
      · exact ⟨old _ _ (Nat.lt_succ_of_lt (Nat.lt_succ_self _)) (up2 _ _ hI0), Nat.ne_of_gt hLI, fresh _ hLI⟩
      · rcases List.mem_cons.mp hp with rfl | hp
        · exact ⟨heC, Nat.ne_of_gt (Nat.lt_succ_of_lt (Nat.lt_succ_of_lt hLI)), fresh _ (Nat.lt_succ_of_lt (Nat.lt_succ_of_lt hLI))⟩
        · rcases List.mem_cons.mp hp with rfl | hp
          · exact ⟨old _ _ (Nat.lt_succ_self _) hoD, Nat.ne_of_gt (Nat.lt_succ_of_lt hLI), fresh _ (Nat.lt_succ_of_lt hLI)⟩
          · have n1 := N1 p hp
            exact ⟨old _ _ (Nat.lt_succ_of_lt (Nat.lt_succ_of_lt (hnI p hp))) (up2 _ _ n1.1), n1.2⟩
    have off0 : ∀ p ∈ news, p.1 ≠ I ∧ p.1 ≠ I + 1 + 1 ∧ p.1 ≠ I + 1 := fun p hp => ⟨Nat.ne_of_lt (hnI p hp), Nat.ne_of_lt (Nat.lt_succ_of_lt (Nat.lt_succ_of_lt (hnI p hp))), Nat.ne_of_lt (Nat.lt_succ_of_lt (hnI p hp))⟩
    have nIC : @Ne Nat I (I + 1 + 1) := by omega
    have nID : @Ne Nat I (I + 1) := by omega
    have nCD : @Ne Nat (I + 1 + 1) (I + 1) := by omega
    have loop : ∀ s₃ : Shared, s₃ = { s₁ with heap := h₁, toks := s₁.toks + ([] : List (Str × Value)).length } →
        codeAny (model prog w) A (.compLoop (.DictComp kx vx [⟨.Name x px, iter, [], 0⟩] scope pos) 0 (.ref I) (.ref (I + 1)) (compEnvC scope cl (I + 1 + 1) env))
          (compPost (model prog w) A E (some (assign (.Name y py) env)) (fun _ s' => Q .next s') (.ref (I + 1)) (I + 1 + 1)) s₃ := by
      rintro s₃ rfl
      refine codeAny_compLoop_testsD
        (fun k s' => ∃ i kvs nw oC oD m' h' tk, s' = { s₁ with heap := h', toks := tk } ∧ i ≤ its.size ∧ k = its.size - i ∧ Φ i kvs nw ∧ LCg.NsObj oC m' ∧ oD.IsDictOf (strKind prog w) kvs ∧ Fr h₀ env.locals h' m ∧
          News h₀ env.locals h' ((I, iterO ax i) :: (I + 1 + 1, oC) :: (I + 1, oD) :: nw) ∧ (∀ p ∈ nw, p.1 ≠ I ∧ p.1 ≠ I + 1 + 1 ∧ p.1 ≠ I + 1)) ?_ its.size
        ⟨0, [], news, oC, oD, _, h₁, _, rfl, Nat.zero_le _, rfl, hΦ, hoC, hDd, F2, N2, off0⟩
      rintro k s' ⟨i, kvs, nw, oC, oD, m', h', tk, rfl, hi, rfl, φ, hoC, hoD, F', N', off⟩
      have hit := (N' _ (.head _))
      have hC' := (N' _ (.tail _ (.head _)))
      have hL2 : h'.IsList ax its := News.isList (fun p hp => N' p (.tail _ (.tail _ (.tail _ hp)))) (hmem i kvs nw φ).1
      cases e : its[i]? with
      | none =>
        have hi' : i = its.size := Nat.le_antisymm hi (Array.getElem?_eq_none_iff.mp e)
        subst hi'
        refine wpAny_pyNext_list_end hh ⟨_, hit.1, rfl, rfl⟩ hL2 e fun h'' hs => ?_
        have F'' : Fr h₀ env.locals h'' m := LCg.fr_but F' (fun b o hb => hs b o (fun q => hb (by rw [q]; exact List.mem_singleton.mpr rfl))) (Ne.symm hit.2.1) hit.2.2
        have N'' : News h₀ env.locals h'' ((I + 1, oD) :: nw) := LCg.news_but (fun p hp => N' p (.tail _ (.tail _ hp))) (fun b o hb => hs b o (fun q => hb (by rw [q]; exact List.mem_singleton.mpr rfl))) fun p hp => by
          rcases List.mem_cons.mp hp with rfl | hp
          · exact Ne.symm nID
          · exact (off p hp).1
        have hC'' : h''.get? (I + 1 + 1) = some oC := hs _ _ (Ne.symm nIC) hC'.1
        show wpAny _ A (assign (.Name y py) env (.ref (I + 1))) _ _ _
        refine wpAny_assign_Name (wpAny_storeName_local hy F''.ns (fun h₂ hn₂ hs₂ => ?_) hp)
        have hL₀ : h₀.get? env.locals = none := Heap.get?_none_of_le F''.above
        have F₂ : Fr h₀ env.locals h₂ (fun z => if z = y then some (.ref (I + 1)) else m z) := ⟨hn₂, fun b o e => hs₂.extBut b o (fun q => by rw [q, hL₀] at e; cases e) (F''.keep b o e), F''.above⟩
        refine ⟨m', (hoC.ns hC'').sameBut hs₂ hC'.2.1, fun h3 hs3 => done kvs nw (I + 1) oD h3 _ φ hoD (F₂.change hs3 hC'.2.1 hC'.2.2) (fun p hp => ?_) fun p hp => (off p hp).2.2⟩
        have z : h₂.get? p.1 = some p.2 := hs₂.extBut _ _ (N'' p hp).2.1 (N'' p hp).1
        refine ⟨hs3.extBut _ _ ?_ z, (N'' p hp).2⟩
        rcases List.mem_cons.mp hp with rfl | hp
        · exact Ne.symm nCD
        · exact (off p hp).2.1
      | some v =>
        have hi' : i < its.size := (Array.getElem?_eq_some_iff.mp e).1
        refine next_item hit.1 hL2 e fun h2 hit2 hs2 => ?_
        have hnC : h2.Ns (I + 1 + 1) m' := (hoC.ns hC'.1).sameBut hs2 (Ne.symm nIC)
        refine wpAny_assign_Name (wpAny_storeName_local (lookup_relabel_local hx) hnC (fun h3 hn3 hs3 => ?_) (by simp [compEnvC, relabel, hkind]))
        obtain ⟨oC3, heC3, hoC3⟩ := LCg.ns_obj hn3
        have F3 : Fr h₀ env.locals h3 m := (F'.change hs2 hit.2.1 hit.2.2).change hs3 hC'.2.1 hC'.2.2
        have N3 : News h₀ env.locals h3 ((I, iterO ax (i + 1)) :: (I + 1 + 1, oC3) :: (I + 1, oD) :: nw) := fun p hp => by
          rcases List.mem_cons.mp hp with rfl | hp
          · exact ⟨(hs3.2 _ nIC).trans hit2, hit.2⟩
          · rcases List.mem_cons.mp hp with rfl | hp
            · exact ⟨heC3, hC'.2⟩
            · have n1 := N' p (.tail _ (.tail _ hp))
              have a1 : p.1 ≠ I := by
                rcases List.mem_cons.mp hp with rfl | hp
                · exact Ne.symm nID
                · exact (off p hp).1
              have a2 : p.1 ≠ I + 1 + 1 := by
                rcases List.mem_cons.mp hp with rfl | hp
                · exact Ne.symm nCD
                · exact (off p hp).2.1
              exact ⟨(hs3.2 _ a2).trans ((hs2.2 _ a1).trans n1.1), n1.2⟩
        rw [List.forIn_nil]
        refine wpAny_pure ?_
        rw [if_pos rfl]
        refine wpAny_mono (turn i v kvs nw I (I + 1 + 1) (I + 1) oC3 oD _ h3 _ _ e φ hoC3 (by simp) hoD F3 N3 off ⟨nIC, nID, nCD⟩) (fun kv s4 h4 => wpAny_mono h4 (fun vv s5 h5 => ?_) fun _ _ x => x) fun _ _ x => x
        obtain ⟨h6, tk6, nw6, kk, tkk, rfl, rfl, F6, N6, off6, φ6⟩ := h5
        have hD6 := N6 (I + 1, oD) (.tail _ (.tail _ (.head _)))
        have hkl := (hmem i kvs nw φ).2
        refine wpAny_dictSet_pairs (knd := strKind prog w) (hsz := by rw [sizeLine_eq]; omega) (strKind_is _ _ _ _) (Heap.dictOf_iff.mpr ⟨oD, hD6.1, hoD⟩) fun h7 hl7 hs7 => ?_
        obtain ⟨oD7, hoD7, hDd7⟩ := Heap.dictOf_iff.mp hl7
        refine ⟨its.size - (i + 1), by omega, i + 1, stored kvs kk vv, nw6, oC3, oD7, _, h7, _, rfl, hi', rfl, φ6, hoC3, hDd7, F6.change hs7 hD6.2.1 hD6.2.2, fun p hp => ?_, off6⟩
        rcases List.mem_cons.mp hp with rfl | hp
        · have n1 := N6 _ (.head _)
          exact ⟨(hs7.2 _ nID).trans n1.1, n1.2⟩
        · rcases List.mem_cons.mp hp with rfl | hp
          · have n1 := N6 _ (.tail _ (.head _))
            exact ⟨(hs7.2 _ nCD).trans n1.1, n1.2⟩
          · rcases List.mem_cons.mp hp with rfl | hp
            · exact ⟨hoD7, hD6.2⟩
            · have n1 := N6 p (.tail _ (.tail _ (.tail _ hp)))
              exact ⟨(hs7.2 _ (off6 p hp).2.2).trans n1.1, n1.2⟩
    refine codeAny_compStart_dict (loop _ rfl) (wpAny_pyIter_listiter ⟨_, (N2 _ (.head _)).1, rfl, rfl⟩ (loop _ rfl))
  case zfin => run_tac Mine.sq
end
end Mine

theorem Mine.use_M75 : True := by
  w_top off
  run_tac Mine.use ["linesP", "lines", "clines", "linesZZ"]
  trivial
namespace Mine
section
theorem Mine.row_M75_75_split_0 : True := by
  k_with "@75_split_0@call builtin:str.split" => ((k_here; k_dflt (refine' Mine.split_one ?o ?_; (case o => assumption))))
  trivial

theorem Mine.use_M75_75_split_0 : True := by
  w_top off
  run_tac Mine.use ["linesP", "lines", "clines", "linesZZ", "75_split_0"]
  trivial

theorem split_lam {w : World} {kf c' : Addr} {och : Obj} {qual : Str} {p1 p2 p3 p4 p5 pp : Pos} {pm ctv : Value} {T news : List (Addr × Obj)}
  (hm : (kf, kla_obj "<lambda>" qual { posonlyargs := [], args := [{ arg := Str.ofString "n", annotation := none, pos := pp }], vararg := none, kwonlyargs := [], kw_defaults := [], kwarg := none, defaults := [] } (.Call (.Attribute (.Name (Str.ofString "n") p1) (Str.ofString "split") p2) [.Constant (.str (Str.ofString "}")) 0 p3, .Constant (.int 1) 0 p4] [] p5) { kind := .function, names := [(Str.ofString "n", .local)], isGenerator := false, isCoroutine := false } [] pm c' ctv) ∈ news)
  (hci : CodeIn T qual (.ref c') c' och) (hT : ∀ p ∈ T, p ∈ news) (hl1 : (p2.endLine == p5.line) = true) : SplitSpec w kf news := by
  refine @Mine.sqz _ ?zmain ?zfin
  case zmain =>
    intro A₀ base h₀ outer env L m s lo me mg mb R d u gd x t news' B F X N T0 hf hke hd hu hC hx h
    obtain ⟨vs, tq, hd1, hd2⟩ := hci.data
    revert X; k_fill; intro X
    refine' kla_code (binds := [(Str.ofString "n", .str x t)]) B F X N T0 rfl hf hke (hC _ hm) (codeRec_news N (hC _ (hT _ hci.mem)) hd1 hd2) ?room ?bind ?loc ?_ rfl rfl rfl ?cell
    case room => exact Nat.lt_of_lt_of_le hd (Nat.le_of_ble_eq_true rfl)
    case bind => exact rfl
    case loc => intro y hy; rcases List.mem_singleton.mp hy with rfl; rfl
    case cell => decide
    intro g' L' h' FG' F' N' B' X' T'
    refine wpAny_Call_method2_late rfl hl1 rfl ?_
    refine nameX_L (v := .str x t) F' rfl ?_
    refine ⟨"str", "str.split", PySem.F.plainAttrs_str, PySem.F.slot_str_split, PySem.F.type_str_split, typeIs_str _ _ _, (fun a h => by cases h), ?_⟩
    refine Calls.callWith_builtin rfl (Calls.evalArgs_plain (Calls.spliced_cons ?_))
    refine wpAny_Constant_str (Calls.spliced_cons (wpAny_Constant_int (Calls.spliced_nil ?_)))
    refine split_one hx ?_
    refine leaveK_ (F'.push _) (News.push F' N' (W.listOf #[.str x t] 0) rfl) fun F2 N2 => h _ _ _ F2 N2 fun p hp => ?_
    exact Heap.lt_size (N' p hp).1
  case zfin => run_tac Mine.sq
end
end Mine

theorem Mine.use_M76 : True := by
  w_top off
  run_tac Mine.use ["linesP", "linesZZ"]
  trivial
namespace Mine
open PyProof.Rows
section
variable {prog : Program} {w : World} {A : Around} {h₀ : Heap} {L : Addr} {m : Str → Option Value} {env : Env}
noncomputable abbrev qTup (k : Str) (t1 t2 t3 : Tok) : Obj := tupO [.str k t1, .str k t2, .str (Str.ofString "") t3]
/-- a turn that parses one name -/
noncomputable def QTurn (prog : Program) (w : World) (A : Around) (h₀ : Heap) (L : Addr) (m : Str → Option Value) (env : Env) (kx vx : Expr) (x : Str) (scope : Scope) (cl : List (Str × Addr)) (s₁ : Shared) (k : Str) (t : Tok) (news : List (Addr × Obj)) : Prop :=
  ∀ I C D (oI oC oD : Obj) m₂ h tk (E' : Value → Shared → Prop), LCg.NsObj oC m₂ → m₂ x = some (.str k t) → Fr h₀ L h m → News h₀ L h ((I, oI) :: (C, oC) :: (D, oD) :: news) → LCg.Off3 I C D news → (@Ne Nat I C) ∧ (@Ne Nat I D) ∧ (@Ne Nat C D) →
      wpAny (model prog w) A (eval kx (compEnvC scope cl C env)) (fun kv s4 => wpAny (model prog w) A (eval vx (compEnvC scope cl C env)) (fun vv s5 =>
        DTurn prog w h₀ L m { s₁ with heap := h, toks := tk } I C D oI oC oD (fun k' vv nw' => ∃ ta t1 t2 t3, k' = k ∧ vv = .ref ta ∧ nw' = (ta, qTup k t1 t2 t3) :: news ∧ ∀ p ∈ news, p.1 < ta) kv vv s5) E' s4) E' { s₁ with heap := h, toks := tk }
theorem QTurn.open {kx vx : Expr} {x : Str} {scope : Scope} {cl : List (Str × Addr)} {s₁ : Shared} {k : Str} {t : Tok} {news : List (Addr × Obj)}
  (h : ∀ I C D (oI oC oD : Obj) m₂ h tk (E' : Value → Shared → Prop), LCg.NsObj oC m₂ → m₂ x = some (.str k t) → Fr h₀ L h m → News h₀ L h ((I, oI) :: (C, oC) :: (D, oD) :: news) → LCg.Off3 I C D news → (@Ne Nat I C) ∧ (@Ne Nat I D) ∧ (@Ne Nat C D) →
      wpAny (model prog w) A (eval kx (compEnvC scope cl C env)) (fun kv s4 => wpAny (model prog w) A (eval vx (compEnvC scope cl C env)) (fun vv s5 =>
        DTurn prog w h₀ L m { s₁ with heap := h, toks := tk } I C D oI oC oD (fun k' vv nw' => ∃ ta t1 t2 t3, k' = k ∧ vv = .ref ta ∧ nw' = (ta, qTup k t1 t2 t3) :: news ∧ ∀ p ∈ news, p.1 < ta) kv vv s5) E' s4) E' { s₁ with heap := h, toks := tk }) : QTurn prog w A h₀ L m env kx vx x scope cl s₁ k t news := h
theorem DTurn.fin {s₁ : Shared} {I C D ta : Addr} {oI oC oD : Obj} {k : Str} {t t1 t2 t3 : Tok} {h' : Heap} {tk' : Nat} {news : List (Addr × Obj)} (F : Fr h₀ L h' m) (N : News h₀ L h' ((ta, qTup k t1 t2 t3) :: (I, oI) :: (C, oC) :: (D, oD) :: news)) (l : AllLt ta ((I, oI) :: (C, oC) :: (D, oD) :: news)) (off : LCg.Off3 I C D news) :
    DTurn prog w h₀ L m s₁ I C D oI oC oD (fun k' vv nw' => ∃ ta t1 t2 t3, k' = k ∧ vv = .ref ta ∧ nw' = (ta, qTup k t1 t2 t3) :: news ∧ ∀ p ∈ news, p.1 < ta) (.str k t) (.ref ta) { s₁ with heap := h', toks := tk' } := by
  refine @Mine.sqz _ ?zmain ?zfin
  case zmain =>
    have l0 := allLt_mem l
    refine DTurn.intro F (fun p hp => N p ?_) (fun p hp => ?_) ⟨ta, t1, t2, t3, rfl, rfl, rfl, fun p hp => l0 p (.tail _ (.tail _ (.tail _ hp)))⟩
    · rcases List.mem_cons.mp hp with rfl | hp
      · exact .tail _ (.head _)
      · rcases List.mem_cons.mp hp with rfl | hp
        · exact .tail _ (.tail _ (.head _))
        · rcases List.mem_cons.mp hp with rfl | hp
          · exact .tail _ (.tail _ (.tail _ (.head _)))
          · rcases List.mem_cons.mp hp with rfl | hp
            · exact .head _
            · exact .tail _ (.tail _ (.tail _ (.tail _ hp)))
    · rcases List.mem_cons.mp hp with rfl | hp
      · exact ⟨Nat.ne_of_gt (l0 (I, oI) (.head _)), Nat.ne_of_gt (l0 (C, oC) (.tail _ (.head _))), Nat.ne_of_gt (l0 (D, oD) (.tail _ (.tail _ (.head _))))⟩
      · exact off.mem p hp
  case zfin => run_tac Mine.sq
noncomputable def DPhi2 (N0 : List (Addr × Obj)) (k1 k2 : Str) (i : Nat) (kvs : List (Str × Value)) (nw : List (Addr × Obj)) : Prop :=
  (i = 0 ∧ kvs = [] ∧ nw = N0) ∨ (∃ ta t1 t2 t3, i = 1 ∧ kvs = [(k1, .ref ta)] ∧ nw = (ta, qTup k1 t1 t2 t3) :: N0 ∧ ∀ p ∈ N0, p.1 < ta) ∨
  (∃ ta t1 t2 t3 tb u1 u2 u3, i = 2 ∧ kvs = [(k1, .ref ta), (k2, .ref tb)] ∧ nw = (tb, qTup k2 u1 u2 u3) :: (ta, qTup k1 t1 t2 t3) :: N0 ∧ (∀ p ∈ N0, p.1 < ta) ∧ ∀ p ∈ (ta, qTup k1 t1 t2 t3) :: N0, p.1 < tb)
theorem DSrc.two {kx vx : Expr} {x y : Str} {scope : Scope} {cl : List (Str × Addr)} {Q : Flow → Shared → Prop} {s₁ : Shared} {ax : Addr} {n : Nat} {k1 k2 : Str} {t1 t2 : Tok} {news : List (Addr × Obj)} (hh : A.handled = none) (F : Fr h₀ L s₁.heap m) (N : News h₀ L s₁.heap news)
    (ha : (ax, W.listOf #[.str k1 t1, .str k2 t2] n) ∈ news) (hne : k1 ≠ k2) (turn1 : QTurn prog w A h₀ L m env kx vx x scope cl s₁ k1 t1 news)
    (turn2 : ∀ ta u1 u2 u3, (∀ p ∈ news, p.1 < ta) → QTurn prog w A h₀ L m env kx vx x scope cl s₁ k2 t2 ((ta, qTup k1 u1 u2 u3) :: news))
    (done : ∀ ta t1 t2 t3 tb u1 u2 u3 D oD h tk, (∀ p ∈ news, p.1 < ta) → (∀ p ∈ (ta, qTup k1 t1 t2 t3) :: news, p.1 < tb) → oD.IsDictOf (strKind prog w) [(k1, .ref ta), (k2, .ref tb)] → Fr h₀ L h (fun z => if z = y then some (.ref D) else m z) →
      News h₀ L h ((D, oD) :: (tb, qTup k2 u1 u2 u3) :: (ta, qTup k1 t1 t2 t3) :: news) → (∀ p ∈ (tb, qTup k2 u1 u2 u3) :: (ta, qTup k1 t1 t2 t3) :: news, p.1 ≠ D) → Q .next { s₁ with heap := h, toks := tk }) :
    DSrc prog w A h₀ L m env kx vx x y scope cl Q (.ref ax) s₁ := by
  refine @Mine.sqz _ ?zmain ?zfin
  case zmain =>
    refine ⟨ax, #[.str k1 t1, .str k2 t2], n, news, DPhi2 news k1 k2, rfl, hh, F, N, (show 2 ≤ 90 by omega), .inl ⟨rfl, rfl, rfl⟩, ?_, ?_, ?_⟩
    · rintro i kvs nw (⟨rfl, rfl, rfl⟩ | ⟨ta, a1, a2, a3, rfl, rfl, rfl, _⟩ | ⟨ta, a1, a2, a3, tb, b1, b2, b3, rfl, rfl, rfl, _, _⟩)
      · exact ⟨ha, Nat.le_refl _⟩
      · exact ⟨.tail _ ha, Nat.le_refl _⟩
      · exact ⟨.tail _ (.tail _ ha), Nat.le_refl _⟩
    · rintro i v kvs nw I C D oC oD m₂ h tk E' hv (⟨rfl, rfl, rfl⟩ | ⟨ta, a1, a2, a3, rfl, rfl, rfl, hta⟩ | ⟨ta, a1, a2, a3, tb, b1, b2, b3, rfl, rfl, rfl, _, _⟩) hC hx hD F' N' off ne
      · obtain rfl : .str k1 t1 = v := Option.some.inj hv
        refine wpAny_mono (turn1 I C D _ oC oD m₂ h tk E' hC hx F' N' (LCg.Off3.of off) ne) (fun kv s4 h4 => wpAny_mono h4 (fun vv s5 h5 => ?_) fun _ _ e => e) fun _ _ e => e
        obtain ⟨h6, tk6, nw6, k, t, e1, e2, F6, N6, off6, ta, u1, u2, u3, rfl, rfl, rfl, hlt⟩ := h5
        refine ⟨h6, tk6, _, k, t, e1, e2, F6, N6, off6, .inr (.inl ⟨ta, u1, u2, u3, rfl, ?_, rfl, hlt⟩)⟩
        rfl
      · obtain rfl : .str k2 t2 = v := Option.some.inj hv
        refine wpAny_mono (turn2 ta a1 a2 a3 hta I C D _ oC oD m₂ h tk E' hC hx F' N' (LCg.Off3.of off) ne) (fun kv s4 h4 => wpAny_mono h4 (fun vv s5 h5 => ?_) fun _ _ e => e) fun _ _ e => e
        obtain ⟨h6, tk6, nw6, k, t, e1, e2, F6, N6, off6, tb, u1, u2, u3, rfl, rfl, rfl, hlt⟩ := h5
        refine ⟨h6, tk6, _, k, t, e1, e2, F6, N6, off6, .inr (.inr ⟨ta, a1, a2, a3, tb, u1, u2, u3, rfl, ?_, rfl, hta, hlt⟩)⟩
        simp [stored, hne]
      · cases hv
    · rintro kvs nw D oD h tk (⟨e, _, _⟩ | ⟨ta, a1, a2, a3, e, _⟩ | ⟨ta, a1, a2, a3, tb, b1, b2, b3, _, rfl, rfl, hta, htb⟩) hD F' N' off
      · cases e
      · cases e
      · exact done ta a1 a2 a3 tb b1 b2 b3 D oD h tk hta htb hD F' N' off
  case zfin => run_tac Mine.sq
noncomputable def DPhi1 (N0 : List (Addr × Obj)) (k1 : Str) (i : Nat) (kvs : List (Str × Value)) (nw : List (Addr × Obj)) : Prop :=
  (i = 0 ∧ kvs = [] ∧ nw = N0) ∨ (∃ ta t1 t2 t3, i = 1 ∧ kvs = [(k1, .ref ta)] ∧ nw = (ta, qTup k1 t1 t2 t3) :: N0 ∧ ∀ p ∈ N0, p.1 < ta)
theorem DSrc.one {kx vx : Expr} {x y : Str} {scope : Scope} {cl : List (Str × Addr)} {Q : Flow → Shared → Prop} {s₁ : Shared} {ax : Addr} {n : Nat} {k1 : Str} {t1 : Tok} {news : List (Addr × Obj)} (hh : A.handled = none) (F : Fr h₀ L s₁.heap m) (N : News h₀ L s₁.heap news)
    (ha : (ax, W.listOf #[.str k1 t1] n) ∈ news) (turn1 : QTurn prog w A h₀ L m env kx vx x scope cl s₁ k1 t1 news)
    (done : ∀ ta t1 t2 t3 D oD h tk, (∀ p ∈ news, p.1 < ta) → oD.IsDictOf (strKind prog w) [(k1, .ref ta)] → Fr h₀ L h (fun z => if z = y then some (.ref D) else m z) →
      News h₀ L h ((D, oD) :: (ta, qTup k1 t1 t2 t3) :: news) → (∀ p ∈ (ta, qTup k1 t1 t2 t3) :: news, p.1 ≠ D) → Q .next { s₁ with heap := h, toks := tk }) :
    DSrc prog w A h₀ L m env kx vx x y scope cl Q (.ref ax) s₁ := by
  refine @Mine.sqz _ ?zmain ?zfin
  case zmain =>
    refine ⟨ax, #[.str k1 t1], n, news, DPhi1 news k1, rfl, hh, F, N, (show 1 ≤ 90 by omega), .inl ⟨rfl, rfl, rfl⟩, ?_, ?_, ?_⟩
    · rintro i kvs nw (⟨rfl, rfl, rfl⟩ | ⟨ta, a1, a2, a3, rfl, rfl, rfl, _⟩)
      · exact ⟨ha, Nat.le_refl _⟩
      · exact ⟨.tail _ ha, Nat.le_refl _⟩
    · rintro i v kvs nw I C D oC oD m₂ h tk E' hv (⟨rfl, rfl, rfl⟩ | ⟨ta, a1, a2, a3, rfl, rfl, rfl, hta⟩) hC hx hD F' N' off ne
      · obtain rfl : .str k1 t1 = v := Option.some.inj hv
        refine wpAny_mono (turn1 I C D _ oC oD m₂ h tk E' hC hx F' N' (LCg.Off3.of off) ne) (fun kv s4 h4 => wpAny_mono h4 (fun vv s5 h5 => ?_) fun _ _ e => e) fun _ _ e => e
        obtain ⟨h6, tk6, nw6, k, t, e1, e2, F6, N6, off6, ta, u1, u2, u3, rfl, rfl, rfl, hlt⟩ := h5
        refine ⟨h6, tk6, _, k, t, e1, e2, F6, N6, off6, .inr ⟨ta, u1, u2, u3, rfl, ?_, rfl, hlt⟩⟩
        rfl
      · cases hv
    · rintro kvs nw D oD h tk (⟨e, _, _⟩ | ⟨ta, a1, a2, a3, _, rfl, rfl, hta⟩) hD F' N' off
      · cases e
      · exact done ta a1 a2 a3 D oD h tk hta hD F' N' off
  case zfin => run_tac Mine.sq
end
end Mine

theorem Mine.use_M77 : True := by
  w_top off
  run_tac Mine.use ["linesP", "linesZZ"]
  trivial
namespace Mine
open PyProof.Rows
section
variable {prog : Program} {w : World} {A : Around} {E : Value → Shared → Prop} {s : Shared} {h₀ : Heap} {L d D : Addr} {m : Str → Option Value} {news : List (Addr × Obj)} {o : Obj} {kvs : List (Str × Value)}
theorem truthy_D {Q : Bool → Shared → Prop} (N : News h₀ L s.heap news) (hm : (d, o) ∈ news) (hd : o.IsDictOf (strKind prog w) kvs) (lo : (d == sysModules) = false) (hfit : kvs.length ≤ 100)
    (h : Q (!kvs.isEmpty) { s with toks := s.toks + 1 + 1 }) : wpAny (model prog w) A (truthy (.ref d)) Q E s :=
  wpAny_truthy_dict lo (kda_dict N hm hd) (by omega) h
/-- a list of one is sorted -/
theorem sort_single {v : Value} {n : Nat} {g : Obj → List (Addr × Obj)} {Q : Value → Shared → Prop} (F : Fr h₀ L s.heap m) (N : News h₀ L s.heap news) (U : UpdF D (W.listOf #[v] n) news g)
    (h : ∀ h' c, Fr h₀ L h' m → News h₀ L h' (g (W.listOf #[v] c)) → Q .none { s with heap := h' }) : wpAny (model prog w) A (call (.builtin "list.sort") [.ref D]) Q E s := by
  refine @Mine.sqz _ ?zmain ?zfin
  case zmain =>
    obtain ⟨pre, post, e0, hg, x1, x2⟩ := U.split
    rw [e0] at N
    have nz := N (D, W.listOf #[v] n) (List.mem_append_right _ (.head _))
    refine wpAny_call_entry slot_list_sort ⟨_, nz.1, rfl⟩ entry_list_sort ?_ (args_list_sort _)
    rw [list_sort_plain]
    have s1 := Heap.SameBut.update s.heap D (Obj.mapSeq fun _ => (#[] : Array Value))
    obtain ⟨e1, ho1⟩ : ∃ e1, (s.heap.update D (Obj.mapSeq fun _ => (#[] : Array Value))).get? D = some (seqObj "list" #[] e1) := ⟨_, get?_update_seq nz.1 fun _ => #[]⟩
    refine wpAny_bind (listItems_at nz.1 rfl ?_)
    refine wpAny_bind (listUpdate_at nz.1 rfl ?_ (by rw [sizeLine_eq]; show 1 ≤ _; omega) (Nat.zero_le _))
    refine wpAny_bind (seqEpoch_at ho1 rfl ?_)
    refine wpAny_bind (wpAny_newTuple ?_ (by show 1 ≤ _; rw [sizeLine_eq]; omega))
    refine wpAny_bind (wpAny_newList ?_ (Nat.zero_le _))
    refine wpAny_holding ?_
    dsimp only
    have hn2 : (#[v] : Array Value).size < 2 := by show 1 < 2; omega
    rw [if_pos hn2, if_pos hn2]
    refine wpAny_bind (wpAny_pure ?_)
    rw [StateT.run_pure]
    refine wpAny_bind (wpAny_pure ?_)
    have ho2 : (((s.heap.update D (Obj.mapSeq fun _ => (#[] : Array Value))).push (seqObj "tuple" #[v] 0)).push (seqObj "list" #[] 0)).get? D = some (seqObj "list" #[] e1) := Heap.get?_push_of_some _ (Heap.get?_push_of_some _ ho1)
    have F3 : Fr h₀ L (((s.heap.update D (Obj.mapSeq fun _ => (#[] : Array Value))).push (seqObj "tuple" #[v] 0)).push (seqObj "list" #[] 0)) m := ((kas_fr F s1 nz.2.1 nz.2.2).push _).push _
    have N3 : News h₀ L (((s.heap.update D (Obj.mapSeq fun _ => (#[] : Array Value))).push (seqObj "tuple" #[v] 0)).push (seqObj "list" #[] 0)) (pre ++ (D, seqObj "list" #[] e1) :: post) := (news_set N x1 x2 s1 ho1).grown fun b x e => Heap.get?_push_of_some _ (Heap.get?_push_of_some _ e)
    generalize (((s.heap.update D (Obj.mapSeq fun _ => (#[] : Array Value))).push (seqObj "tuple" #[v] 0)).push (seqObj "list" #[] 0)) = H at ho2 F3 N3 ⊢
    have s2 := Heap.SameBut.update H D (Obj.mapSeq fun _ => (#[v] : Array Value))
    obtain ⟨c2, hc2⟩ : ∃ c2, (H.update D (Obj.mapSeq fun _ => (#[v] : Array Value))).get? D = some (seqObj "list" #[v] c2) := ⟨_, get?_update_seq ho2 fun _ => #[v]⟩
    refine wpAny_bind (seqEpoch_at (s := { s with heap := H }) ho2 rfl ?_)
    have e5 : Array.map (fun x : Value × Value => x.2) (#[v].zip #[v]) = #[v] := by simp
    refine wpAny_bind (listUpdate_at (s := { s with heap := H }) ho2 rfl ?_ (Nat.zero_le _) (by show (Array.map (fun x : Value × Value => x.2) (#[v].zip #[v])).size ≤ _; rw [e5, sizeLine_eq]; show 1 ≤ _; omega))
    show wpAny _ _ (if (e1 != e1) = true then _ else _) _ _ _
    simp only [bne_self_eq_false, Bool.false_eq_true, if_false]
    refine wpAny_pure ⟨_, rfl, ?_⟩
    show Q .none { s with heap := H.update D (Obj.mapSeq fun _ => Array.map (fun x : Value × Value => x.2) (#[v].zip #[v])) }
    rw [e5]
    refine h _ c2 (kas_fr F3 s2 nz.2.1 nz.2.2) ?_
    rw [hg]
    exact news_set N3 x1 x2 s2 hc2
  case zfin => run_tac Mine.sq
theorem OneEnd.intro1 {Q : Flow → Shared → Prop} {p : Addr × Obj} {r : List (Addr × Obj)} {it l : Addr} {io : Obj} {v : Value} {h' : Heap} {g' : Array GenState} {tk' : Nat} {m' : Str → Option Value} {n : Nat} (F : Fr h₀ L h' m') (N : News h₀ L h' (p :: (it, io) :: r)) (hl : (l, W.listOf #[v] n) ∈ p :: r) (d : ∀ q ∈ p :: r, q.1 ≠ it) (k : ∀ h tk, Fr h₀ L h m' → News h₀ L h (p :: r) → Q .next (St s h g' tk)) :
    OneEnd h₀ L s it io l v Q .next (St s h' g' tk') :=
  OneEnd.intro F (fun q hq => N q (by
    rcases List.mem_cons.mp hq with rfl | hq
    · exact .tail _ (.head _)
    · rcases List.mem_cons.mp hq with rfl | hq
      · exact .head _
      · exact .tail _ (.tail _ hq))) hl d k
theorem list_append_U {g : Obj → List (Addr × Obj)} {its : Array Value} {v : Value} {n : Nat} {Q : Value → Shared → Prop} (F : Fr h₀ L s.heap m) (N : News h₀ L s.heap news) (U : UpdF D (W.listOf its n) news g) (hz : its.size ≤ 100)
    (h : ∀ h', Fr h₀ L h' m → News h₀ L h' (g (W.listOf (its.push v) (n + 1))) → Q .none { s with heap := h' }) : wpAny (model prog w) A (call (.builtin "list.append") [.ref D, v]) Q E s := by
  refine @Mine.sqz _ ?zmain ?zfin
  case zmain =>
    obtain ⟨rest, e1, e2, e3⟩ := updF_head U
    exact append_K F (news_sub N fun p hp => (e1 p).mpr hp) (Upd.head e3) (fun h' F' N' => h h' F' (news_sub N' fun p hp => (e2 _ p).mp hp)) (by rw [sizeLine_eq]; omega)
  case zfin => run_tac Mine.sq
end
end Mine

theorem Mine.use_M78 : True := by
  w_top off
  run_tac Mine.use ["linesP", "linesZZ"]
  trivial
namespace Mine
open PyProof.Rows PySem.Builtin.Str
section
variable {prog : Program} {w : World} {A : Around} {E : Value → Shared → Prop} {s : Shared} {h₀ : Heap} {L d D : Addr} {m : Str → Option Value} {news : List (Addr × Obj)}
theorem truthy_L {its : Array Value} {n : Nat} {Q : Bool → Shared → Prop} (N : News h₀ L s.heap news) (hm : (d, W.listOf its n) ∈ news) (hfit : its.size ≤ 1000)
    (h : Q (!its.isEmpty) { s with toks := s.toks + 1 + 1 }) : wpAny (model prog w) A (truthy (.ref d)) Q E s :=
  wpAny_truthy_list (News.isList N hm) (by omega) h
theorem join_single (x : Str) : Txt.join (Str.ofString "") [x] = x := rfl
theorem joinOk_single {x : Str} (hx : x.length ≤ 1000) : JoinOk (Str.ofString "") [x] = true := by
  refine @Mine.sqz _ ?zmain ?zfin
  case zmain =>
    have e : tooLong (0 + x.length + (Str.ofString "").length) = false := by
      unfold tooLong
      have h0 : (Str.ofString "").length = 0 := by decide +kernel
      rw [h0, sizeLine_eq]
      exact decide_eq_false (by omega)
    show (!tooLong (0 + x.length + (Str.ofString "").length)) = true
    rw [e]; rfl
  case zfin => run_tac Mine.sq
theorem join_one {x : Str} {t u : Tok} {n : Nat} {Q : Value → Shared → Prop} (N : News h₀ L s.heap news) (hm : (D, W.listOf #[.str x t] n) ∈ news) (hx : x.length ≤ 1000) (h : ∀ t' k, Q (.str x t') { s with toks := k }) :
    wpAny (model prog w) A (call (.builtin "str.join") [.str (Str.ofString "") u, .ref D]) Q E s :=
  SC.join (l := [(x, t)]) (texts := [x]) (News.isList N hm) rfl (joinOk_single hx) fun t' k => h t' k
theorem News.drop3 {h₀ h : Heap} {L : Addr} {p a b c : Addr × Obj} {r : List (Addr × Obj)} (N : News h₀ L h (p :: a :: b :: c :: r)) : News h₀ L h (p :: r) := fun q hq => by
  rcases List.mem_cons.mp hq with rfl | hq
  · exact N _ (.head _)
  · exact N q (.tail _ (.tail _ (.tail _ (.tail _ hq))))
theorem mark_len : ∀ sg ∈ signs, (dbl (markF sg)).length ≤ 20 := by decide +kernel
theorem pl7 : (Str.ofString "<").length = 1 := by decide +kernel
theorem pl8 : (Str.ofString ">").length = 1 := by decide +kernel
theorem pl9 : (Str.ofString " ").length = 1 := by decide +kernel
theorem pl10 : (Str.ofString "=\"").length = 2 := by decide +kernel
theorem pl11 : (Str.ofString "\"").length = 1 := by decide +kernel
theorem pl12 : (Str.ofString "k").length = 1 := by decide +kernel
end
end Mine

theorem Mine.use_M78b : True := by
  w_top off
  run_tac Mine.use ["linesP", "linesZZ"]
  trivial
namespace Mine
theorem map6 {mb : Str → Option Value} {k1 k2 k3 k4 k5 k6 : Str} {v1 v2 v3 v4 v5 v6 : Value} (q1 : mb k1 = some v1) (q2 : mb k2 = some v2) (q3 : mb k3 = some v3) (q4 : mb k4 = some v4) (q5 : mb k5 = some v5) (q6 : mb k6 = some v6) :
    mb = fun y => if y = k1 then some v1 else if y = k2 then some v2 else if y = k3 then some v3 else if y = k4 then some v4 else if y = k5 then some v5 else if y = k6 then some v6 else mb y := by
  funext y
  by_cases e : y = k1
  · rw [if_pos e, e]; exact q1
  · rw [if_neg e]; exact congrFun (map5 q2 q3 q4 q5 q6) y
theorem fr_map {h₀ h : Heap} {L : Addr} {m m' : Str → Option Value} (F : Fr h₀ L h m) (e : m = m') : Fr h₀ L h m' := e ▸ F
theorem fr_map4 {h₀ h : Heap} {L : Addr} {mb : Str → Option Value} (F : Fr h₀ L h mb) {k1 k2 k3 k4 : Str} {v1 v2 v3 v4 : Value} (q1 : mb k1 = some v1) (q2 : mb k2 = some v2) (q3 : mb k3 = some v3) (q4 : mb k4 = some v4) :
    ∃ m0 : Str → Option Value, Fr h₀ L h (fun y => if y = k1 then some v1 else if y = k2 then some v2 else if y = k3 then some v3 else if y = k4 then some v4 else m0 y) := ⟨mb, fr_map F (map4 q1 q2 q3 q4)⟩
theorem fr_map5 {h₀ h : Heap} {L : Addr} {mb : Str → Option Value} (F : Fr h₀ L h mb) {k1 k2 k3 k4 k5 : Str} {v1 v2 v3 v4 v5 : Value} (q1 : mb k1 = some v1) (q2 : mb k2 = some v2) (q3 : mb k3 = some v3) (q4 : mb k4 = some v4) (q5 : mb k5 = some v5) :
    ∃ m0 : Str → Option Value, Fr h₀ L h (fun y => if y = k1 then some v1 else if y = k2 then some v2 else if y = k3 then some v3 else if y = k4 then some v4 else if y = k5 then some v5 else m0 y) := ⟨mb, fr_map F (map5 q1 q2 q3 q4 q5)⟩
theorem fr_map6 {h₀ h : Heap} {L : Addr} {mb : Str → Option Value} (F : Fr h₀ L h mb) {k1 k2 k3 k4 k5 k6 : Str} {v1 v2 v3 v4 v5 v6 : Value} (q1 : mb k1 = some v1) (q2 : mb k2 = some v2) (q3 : mb k3 = some v3) (q4 : mb k4 = some v4) (q5 : mb k5 = some v5) (q6 : mb k6 = some v6) :
    ∃ m0 : Str → Option Value, Fr h₀ L h (fun y => if y = k1 then some v1 else if y = k2 then some v2 else if y = k3 then some v3 else if y = k4 then some v4 else if y = k5 then some v5 else if y = k6 then some v6 else m0 y) := ⟨mb, fr_map F (map6 q1 q2 q3 q4 q5 q6)⟩
theorem tup_first {prog : Program} {w : World} {A : Around} {E : Value → Shared → Prop} {s : Shared} {value slice : Expr} {t : Addr} {v : Value} {vs : List Value} {u : Tok} {Q : Value → Shared → Prop} (ht : PyProof.Rows.IsTup s.heap t (List.toArray (v :: vs))) (h : Q v s)
    (hs : subscripted slice false (.ref t) (.int 0 u) = operate [.ref t, .int 0 u] (getItem (.ref t) (.int 0 u)) := by with_unfolding_all rfl) (hg : ∀ r, letTemporaryGo value (.ref t) r = pure () := by intro _; with_unfolding_all rfl) :
    wpAny (model prog w) A (subscriptTail value slice (.ref t) (.int 0 u)) Q E s :=
  PyProof.Rows.item_tuple (j := 0) ht (by decide) (by decide) (by simp [seqIndex?]) (by simp) h hs hg
theorem truthy_one {prog : Program} {w : World} {A : Around} {E : Value → Shared → Prop} {s : Shared} {h₀ : Heap} {L d : Addr} {news : List (Addr × Obj)} {v : Value} {n : Nat} {Q : Bool → Shared → Prop} (N : News h₀ L s.heap news) (hm : (d, W.listOf #[v] n) ∈ news) (h : Q true { s with toks := s.toks + 1 + 1 }) :
    wpAny (model prog w) A (truthy (.ref d)) Q E s := truthy_L N hm (show 1 ≤ 1000 by omega) h
end Mine

theorem Mine.use_M78c : True := by
  w_top off
  run_tac Mine.use ["linesP", "linesZZ"]
  trivial
namespace Mine
open PyProof.Rows
theorem closure_none {sc : Scope} {env : Env} (h : ∀ y ∈ sc.names, y.2 ≠ .free) : closureFor sc env = pure [] := by
  refine @Mine.sqz _ ?zmain ?zfin
  case zmain =>
    unfold closureFor
    suffices g : ∀ (l : List (Str × NameKind)), (∀ y ∈ l, y.2 ≠ .free) → (forIn l ([] : List (Str × Addr)) fun (x : Str × NameKind) cs => match x with
        | (name, kind) => if (kind == NameKind.free) = true then do
            let a ← cellOf env name
            pure (ForInStep.yield ((name, a) :: cs))
          else pure (ForInStep.yield cs)) = (pure [] : Sem (List (Str × Addr))) by
      have e := g sc.names h
      dsimp only
      rw [e]
      rfl
    intro l
    induction l with
    | nil => intro _; rfl
    | cons y r ih =>
      intro hl
      rw [List.forIn_cons]
      have : (y.2 == NameKind.free) = false := by
        cases e : (y.2 == NameKind.free) with
        | false => rfl
        | true => exact absurd (by simpa using e) (hl y (.head _))
      dsimp only
      rw [this]
      exact ih fun z hz => hl z (.tail _ hz)
  case zfin => run_tac Mine.sq
section
variable {prog : Program} {w : World} {A : Around} {h₀ : Heap} {L : Addr} {m : Str → Option Value} {env : Env}
/-- the end of the one turn of a comprehension -/
noncomputable def CTurn (h₀ : Heap) (L : Addr) (m : Str → Option Value) (s₁ : Shared) (I C D : Addr) (oI oC oD : Obj) (news : List (Addr × Obj)) (Q : Value → Shared → Prop) (y : Value) (s₂ : Shared) : Prop :=
  ∃ h' tk', s₂ = { s₁ with heap := h', toks := tk' } ∧ Fr h₀ L h' m ∧ News h₀ L h' ((I, oI) :: (C, oC) :: (D, oD) :: news) ∧
    ∀ D h tk, Fr h₀ L h m → News h₀ L h ((D, W.listOf #[y] 1) :: news) → LCg.Off1 D news → Q (.ref D) { s₁ with heap := h, toks := tk }
theorem CTurn.fin {s₁ : Shared} {I C D : Addr} {oI oC oD : Obj} {news : List (Addr × Obj)} {Q : Value → Shared → Prop} {y : Value} {h' : Heap} {tk' : Nat} (F : Fr h₀ L h' m) (N : News h₀ L h' ((I, oI) :: (C, oC) :: (D, oD) :: news))
    (h : ∀ D h tk, Fr h₀ L h m → News h₀ L h ((D, W.listOf #[y] 1) :: news) → LCg.Off1 D news → Q (.ref D) { s₁ with heap := h, toks := tk }) :
    CTurn h₀ L m s₁ I C D oI oC oD news Q y { s₁ with heap := h', toks := tk' } := ⟨h', tk', rfl, F, N, h⟩
theorem CTurn.fin_str {s₁ : Shared} {I C D : Addr} {oI oC oD : Obj} {news : List (Addr × Obj)} {Q : Value → Shared → Prop} {x : Str} {t0 : Tok} {h' : Heap} {tk' : Nat} (F : Fr h₀ L h' m) (N : News h₀ L h' ((I, oI) :: (C, oC) :: (D, oD) :: news))
    (h : ∀ t D h tk, Fr h₀ L h m → News h₀ L h ((D, W.listOf #[.str x t] 1) :: news) → LCg.Off1 D news → Q (.ref D) { s₁ with heap := h, toks := tk }) :
    CTurn h₀ L m s₁ I C D oI oC oD news Q (.str x t0) { s₁ with heap := h', toks := tk' } := CTurn.fin F N (h t0)
theorem SrcLP_one {elt : Expr} {x x₂ : Str} {scope : Scope} {cl : List (Str × Addr)} {Q : Value → Shared → Prop} {s₁ : Shared} {ax t : Addr} {k : Nat} {v₁ v₂ : Value} {news : List (Addr × Obj)}
    (hh : A.handled = none) (F : Fr h₀ L s₁.heap m) (N : News h₀ L s₁.heap news) (ha : (ax, W.listOf #[.ref t] k) ∈ news) (ht : (t, tupO [v₁, v₂]) ∈ news)
    (turn : ∀ I C D (oI oC oD : Obj) m₂ h tk (E' : Value → Shared → Prop), LCg.NsObj oC m₂ → m₂ x = some v₁ → m₂ x₂ = some v₂ → Fr h₀ L h m → News h₀ L h ((I, oI) :: (C, oC) :: (D, oD) :: news) → LCg.Off3 I C D news → ((@Ne Nat I C) ∧ (@Ne Nat I D) ∧ (@Ne Nat C D)) →
      wpAny (model prog w) A (eval elt (compEnvC scope cl C env)) (CTurn h₀ L m s₁ I C D oI oC oD news Q) E' { s₁ with heap := h, toks := tk }) :
    LCp.SrcLP prog w A h₀ L m env elt x x₂ scope cl (fun s₂ => LCg.FinE h₀ L m s₂ Q) (.ref ax) s₁ := by
  refine @Mine.sqz _ ?zmain ?zfin
  case zmain =>
    refine LCp.SrcLP.ledger hh F N ha (show 1 ≤ sizeLine by rw [PySem.sizeLine_eq]; omega) fun g => ?_
    refine LCp.CompRestP.succ fun v hv => ?_
    obtain rfl : Value.ref t = v := Option.some.inj hv
    refine ⟨t, _, v₁, v₂, _, rfl, ht, rfl, rfl, ?_⟩
    intro I oI C oC D m₂ h tk E' hC hx hx2 F' N' off ne
    refine wpAny_mono (turn I C D oI oC _ m₂ h tk E' hC hx hx2 F' N' off ne) (fun y s4 h4 => ?_) fun _ _ e => e
    obtain ⟨h', tk', rfl, F4, N4, hq⟩ := h4
    refine ⟨h', tk', news, rfl, F4, N4, off, .inr ⟨_, ha, rfl, _, rfl⟩, ?_⟩
    refine LCp.CompRestP.zero ?_
    intro D' h5 tk5 F5 N5 o5
    exact hq D' h5 tk5 F5 N5 o5
  case zfin => run_tac Mine.sq
end
end Mine
namespace Mine
theorem last_push {prog : Program} {w : World} {A : Around} {E : Value → Shared → Prop} {s : Shared} {value slice : Expr} {l : Addr} {vi : Array Value} {v : Value} {u : Tok} {Q : Value → Shared → Prop} (hl : s.heap.IsList l (vi.push v)) (h : Q v s)
    (hs : subscripted slice false (.ref l) (.int (-1) u) = operate [.ref l, .int (-1) u] (getItem (.ref l) (.int (-1) u)) := by with_unfolding_all rfl) (hg : ∀ r, letTemporaryGo value (.ref l) r = pure () := by intro _; with_unfolding_all rfl) :
    wpAny (model prog w) A (subscriptTail value slice (.ref l) (.int (-1) u)) Q E s := by
  have e : vi.push v = (vi.toList ++ [v]).toArray := by cases vi with | mk l => exact List.push_toArray l v
  rw [e] at hl
  exact PyProof.Rows.item_last hl h hs hg
end Mine

theorem Mine.use_M79 : True := by
  w_top off
  run_tac Mine.use ["linesP", "linesZZ"]
  trivial
namespace Mine
open PyProof.Rows
section
variable {prog : Program} {w : World} {A : Around} {R : Result → Shared → Prop} {s : Shared} {C D : Addr} {lv pv : Str} {pp lp ep lp2 : Pos} {iter : Expr} {scope : Scope} {pos : Pos}
noncomputable abbrev nestE (lv pv : Str) (pp lp ep lp2 : Pos) (iter : Expr) (scope : Scope) (pos : Pos) : Expr := .ListComp (.Name pv ep) [⟨.Name lv lp, iter, [], 0⟩, ⟨.Name pv pp, .Name lv lp2, [], 0⟩] scope pos
theorem iter_notedAt {α : Type} {env : Env} {m : Sem α} {Q : α → Shared → Prop} {E : Value → Shared → Prop} (h : wpAny (model prog w) A m Q (fun _ _ => False) s) : wpAny (model prog w) A m Q (notedBy (model prog w) A env E) s := wpAny_mono h (fun _ _ q => q) fun _ _ x => x.elim
theorem isList_but {h h' : Heap} {a b : Addr} {its : Array Value} (hl : h.IsList a its) (hs : Heap.SameBut b h h') (hab : a ≠ b) : h'.IsList a its := let ⟨o, ho, r⟩ := hl; ⟨o, (hs.2 a hab).trans ho, r⟩
theorem isList_at {h h' : Heap} {a : Addr} {its : Array Value} (hl : h.IsList a its) (k : ∀ o, h.get? a = some o → h'.get? a = some o) : h'.IsList a its := let ⟨o, ho, r⟩ := hl; ⟨o, k o ho, r⟩
/-- the inner loop over a level that holds nothing -/
theorem nest_none {cenv : Env} {I2 lvl : Addr} (hh : A.handled = none) (hit : s.heap.IsListIter I2 lvl 0) (hl : s.heap.IsList lvl #[])
    (hR : ∀ h', Heap.ExtBut I2 s.heap h' → R (.ok .next) { s with heap := h' }) :
    codeAny (model prog w) A (.compLoop (nestE lv pv pp lp ep lp2 iter scope pos) 1 (.ref I2) (.ref D) cenv) R s := by
  refine @Mine.sqz _ ?zmain ?zfin
  case zmain =>
    refine codeAny_of_tree ?_
    show wpAny _ A ((compTurn (nestE lv pv pp lp ep lp2 iter scope pos) 1 (.ref I2) (.ref D) cenv).onRaise (fun x => do noteFrame x cenv; theTreesLotGoes x)) _ _ s
    refine wpAny_noted ?_
    refine wpAny_bind (wpAny_standAt (wpAny_bind (wpAny_pyNext_list_end hh hit hl rfl fun h' hs => ?_)))
    exact wpAny_pure (hR h' hs)
  case zfin => run_tac Mine.sq
/-- the inner loop over a level of one -/
theorem nest_one {cenv : Env} {I2 lvl : Addr} {v : Value} {acc : Array Value} {m : Str → Option Value} (hh : A.handled = none) (hit : s.heap.get? I2 = some (iterO lvl 0)) (hl : s.heap.IsList lvl #[v]) (hn : s.heap.Ns cenv.locals m) {nD : Nat} (hD : s.heap.get? D = some (W.listOf acc nD)) (hacc : acc.size ≤ 100)
    (hk : cenv.kindOf pv = some .local) (hkf : cenv.scope.kind = .function) (hdb : (pv == ("__debug__" : Str)) = false) (n1 : I2 ≠ cenv.locals) (n2 : I2 ≠ D) (n3 : D ≠ cenv.locals) (n4 : lvl ≠ cenv.locals) (n5 : lvl ≠ D) (n6 : lvl ≠ I2)
    (hR : ∀ h' tk m', h'.Ns cenv.locals m' → (∀ x, x ≠ pv → m' x = m x) → h'.get? D = some (W.listOf (acc.push v) (nD + 1)) → (∀ b o, b ≠ I2 → b ≠ cenv.locals → b ≠ D → s.heap.get? b = some o → h'.get? b = some o) → R (.ok .next) { s with heap := h', toks := tk }) :
    codeAny (model prog w) A (.compLoop (nestE lv pv pp lp ep lp2 iter scope pos) 1 (.ref I2) (.ref D) cenv) R s := by
  refine @Mine.sqz _ ?zmain ?zfin
  case zmain =>
    refine codeAny_of_tree ?_
    show wpAny _ A ((compTurn (nestE lv pv pp lp ep lp2 iter scope pos) 1 (.ref I2) (.ref D) cenv).onRaise (fun x => do noteFrame x cenv; theTreesLotGoes x)) _ _ s
    refine wpAny_noted ?_
    refine wpAny_bind (wpAny_standAt (wpAny_bind (next_item hit hl rfl fun h1 hit1 hs1 => ?_)))
    show wpAny _ _ (letOwnedTupleGo (.Name pv pp) (.ref I2) v >>= _) _ _ _
    refine wpAny_bind (wpAny_pure ?_)
    have hn1 : h1.Ns cenv.locals m := hn.sameBut hs1 (Ne.symm n1)
    have hfn : (cenv.scope.kind == .class || (cenv.scope.kind == .module && cenv.locals != cenv.globals)) = false := by rw [hkf]; rfl
    refine wpAny_bind (wpAny_assign_Name (wpAny_storeName_local hk hn1 (fun h2 hn2 hs2 => ?_) hfn))
    dsimp only
    rw [List.forIn_nil]
    refine wpAny_bind (wpAny_pure ?_)
    rw [if_pos rfl]
    refine wpAny_bind ?_
    show wpAny _ _ (eval (.Name pv ep) cenv >>= fun x => call (.builtin "list.append") [.ref D, x] >>= fun _ => pure ()) _ _ _
    refine wpAny_bind (wpAny_Name (wpAny_loadName_local hkf hk hn2 (v := v) (by simp) ?_) hdb)
    have hD2 : h2.get? D = some (W.listOf acc nD) := (hs2.2 D n3).trans ((hs1.2 D (Ne.symm n2)).trans hD)
    refine wpAny_bind (append_at (hsz := by rw [sizeLine_eq]; omega) hD2 fun h3 hs3 hD3 => ?_)
    refine wpAny_pure ?_
    refine wpAny_pure ⟨rfl, codeAny_of_tree ?_⟩
    show wpAny _ A ((compTurn (nestE lv pv pp lp ep lp2 iter scope pos) 1 (.ref I2) (.ref D) cenv).onRaise (fun x => do noteFrame x cenv; theTreesLotGoes x)) _ _ _
    refine wpAny_noted ?_
    have hit3 : h3.IsListIter I2 lvl 1 := ⟨_, (hs3.2 I2 n2).trans ((hs2.2 I2 n1).trans hit1), rfl, rfl⟩
    have hl3 : h3.IsList lvl #[v] := isList_but (isList_but (isList_but hl hs1 n6) hs2 n4) hs3 n5
    refine wpAny_bind (wpAny_standAt (wpAny_bind (wpAny_pyNext_list_end hh hit3 hl3 rfl fun h4 hs4 => ?_)))
    refine wpAny_pure (hR h4 _ _ ((hn2.sameBut hs3 (Ne.symm n3)).extBut hs4 (Ne.symm n1)) (fun x hx => if_neg hx) ?_ fun b o b1 b2 b3 e => ?_)
    · exact hs4 D _ (Ne.symm n2) hD3
    · exact hs4 b o b1 ((hs3.2 b b3).trans ((hs2.2 b b2).trans ((hs1.2 b b1).trans e)))
  case zfin => run_tac Mine.sq
/-- what a level holds -/
noncomputable def LevelsAt (h : Heap) (tp : Addr) (base : Addr) : List Value → Prop
  | [] => False
  | [v] => ∃ l, v = .ref l ∧ h.IsList l #[.ref tp] ∧ l < base
  | v :: r => (∃ l, v = .ref l ∧ h.IsList l #[] ∧ l < base) ∧ LevelsAt h tp base r
theorem LevelsAt.keep {h h' : Heap} {tp base : Addr} (k : ∀ b o, b < base → h.get? b = some o → h'.get? b = some o) : ∀ {vs : List Value}, LevelsAt h tp base vs → LevelsAt h' tp base vs
  | [], x => x
  | [_], ⟨l, e, hl, lt⟩ => ⟨l, e, isList_at hl fun o ho => k l o lt ho, lt⟩
  | _ :: _ :: _, ⟨⟨l, e, hl, lt⟩, r⟩ => ⟨⟨l, e, isList_at hl fun o ho => k l o lt ho, lt⟩, LevelsAt.keep k r⟩
/-- the inner loop is entered -/
theorem nest_enter {cenv : Env} {I2 lvl : Addr} (hit : s.heap.IsListIter I2 lvl 0) (h : codeAny (model prog w) A (.compLoop (nestE lv pv pp lp ep lp2 iter scope pos) 1 (.ref I2) (.ref D) cenv) R s) :
    codeAny (model prog w) A (.compStart (nestE lv pv pp lp ep lp2 iter scope pos) 1 (.ref I2) (.ref D) cenv) R s := by
  refine @Mine.sqz _ ?zmain ?zfin
  case zmain =>
    refine codeAny_of_tree ?_
    show wpAny _ _ ((compStart (nestE lv pv pp lp ep lp2 iter scope pos) 1 (.ref I2) (.ref D) cenv).onRaise (fun x => do noteFrame x cenv; standAt theWindowsPlace)) _ _ s
    refine wpAny_notedAt ?_
    unfold compStart
    show wpAny _ _ (ask >>= _) _ _ s
    refine wpAny_bind (wpAny_askSetting (wpAny_ite ?_))
    split
    · exact wpAny_pure ⟨rfl, h⟩
    · refine wpAny_bind (wpAny_rule (wpAny_bind (wpAny_standAt (wpAny_bind (wpAny_pyIter_listiter hit ?_)))))
      exact wpAny_pure ⟨rfl, h⟩
  case zfin => run_tac Mine.sq
/-- the outer loop, from a place on -/
theorem nest_outer {cenv : Env} {I rv base tp : Addr} {items : Array Value} (hh : A.handled = none) (hk1 : cenv.kindOf lv = some .local) (hk2 : cenv.kindOf pv = some .local) (hlp : lv ≠ pv) (hkf : cenv.scope.kind = .function) (hdb1 : (lv == ("__debug__" : Str)) = false) (hdb : (pv == ("__debug__" : Str)) = false)
    (hrv : rv < base) (hIb : base ≤ I) (hCb : base ≤ cenv.locals) (hDb : base ≤ D) (n1 : I ≠ cenv.locals) (n2 : I ≠ D) (n3 : D ≠ cenv.locals) :
    ∀ (rest : List Value) (i : Nat) (s : Shared) (m : Str → Option Value), items.toList.drop i = rest → LevelsAt s.heap tp base rest → s.heap.get? I = some (iterO rv i) → s.heap.IsList rv items → s.heap.Ns cenv.locals m → s.heap.get? D = some (W.listOf #[] 0) →
      (I < s.heap.objs.size ∧ cenv.locals < s.heap.objs.size ∧ D < s.heap.objs.size) →
      (∀ h' tk m', h'.Ns cenv.locals m' → h'.get? D = some (W.listOf #[.ref tp] 1) → (∀ b o, b < base → s.heap.get? b = some o → h'.get? b = some o) → R (.ok .next) { s with heap := h', toks := tk }) →
      codeAny (model prog w) A (.compLoop (nestE lv pv pp lp ep lp2 iter scope pos) 0 (.ref I) (.ref D) cenv) R s := by
  refine @Mine.sqz _ ?zmain ?zfin
  case zmain =>
    intro rest
    induction rest with
    | nil => intro i s m _ hL; exact hL.elim
    | cons v rest ih =>
      intro i s m hdr hL hit hrvl hn hD hlt hR
      have hiv : items[i]? = some v := by
        rw [← Array.getElem?_toList]
        have := congrArg (·[0]?) hdr
        simpa [List.getElem?_drop] using this
      have hdr2 : items.toList.drop (i + 1) = rest := by
        have := congrArg (List.drop 1) hdr
        simpa [List.drop_drop] using this
      refine codeAny_of_tree ?_
      show wpAny _ A ((compTurn (nestE lv pv pp lp ep lp2 iter scope pos) 0 (.ref I) (.ref D) cenv).onRaise (fun x => do noteFrame x cenv; theTreesLotGoes x)) _ _ s
      refine wpAny_noted ?_
      refine wpAny_bind (wpAny_standAt (wpAny_bind (next_item hit hrvl hiv fun h1 hit1 hs1 => ?_)))
      show wpAny _ _ (letOwnedTupleGo (.Name lv lp) (.ref I) v >>= _) _ _ _
      refine wpAny_bind (wpAny_pure ?_)
      have hn1 : h1.Ns cenv.locals m := hn.sameBut hs1 (Ne.symm n1)
      have hfn : (cenv.scope.kind == .class || (cenv.scope.kind == .module && cenv.locals != cenv.globals)) = false := by rw [hkf]; rfl
      refine wpAny_bind (wpAny_assign_Name (wpAny_storeName_local hk1 hn1 (fun h2 hn2 hs2 => ?_) hfn))
      dsimp only
      rw [List.forIn_nil]
      refine wpAny_bind (wpAny_pure ?_)
      rw [if_pos rfl]
      have hsz2 : h2.objs.size = s.heap.objs.size := hs2.1.trans hs1.1
      have keep2 : ∀ b o, b < base → s.heap.get? b = some o → h2.get? b = some o := fun b o hb e => (hs2.2 b (Nat.ne_of_lt (Nat.lt_of_lt_of_le hb hCb))).trans ((hs1.2 b (Nat.ne_of_lt (Nat.lt_of_lt_of_le hb hIb))).trans e)
      have hit2 : h2.get? I = some (iterO rv (i + 1)) := (hs2.2 I n1).trans hit1
      have hD2 : h2.get? D = some (W.listOf #[] 0) := (hs2.2 D n3).trans ((hs1.2 D (Ne.symm n2)).trans hD)
      have hrv2 : h2.IsList rv items := isList_at hrvl fun o ho => keep2 rv o hrv ho
      obtain ⟨lvl, rfl, hll, hlvb⟩ : ∃ lvl, v = .ref lvl ∧ (h2.IsList lvl #[] ∨ h2.IsList lvl #[.ref tp]) ∧ lvl < base := by
        cases rest with
        | nil => obtain ⟨l, e, hl, lt⟩ := hL; exact ⟨l, e, .inr (isList_at hl fun o ho => keep2 l o lt ho), lt⟩
        | cons v2 r2 => obtain ⟨⟨l, e, hl, lt⟩, _⟩ := hL; exact ⟨l, e, .inl (isList_at hl fun o ho => keep2 l o lt ho), lt⟩
      have hLv : LevelsAt h2 tp base (.ref lvl :: rest) := hL.keep keep2
      refine wpAny_bind ?_
      show wpAny _ _ (eval (.Name lv lp2) cenv) _ _ _
      refine wpAny_Name (wpAny_loadName_local hkf hk1 hn2 (v := .ref lvl) (by simp) ?_) hdb1
      refine wpAny_bind (wpAny_standAt ?_)
      simp only [bne_self_eq_false, Bool.false_eq_true, ↓reduceIte]
      refine wpAny_bind (m := foldedSetIterable (.Name lv lp2) cenv (.ref lvl)) (wpAny_pure ?_)
      obtain ⟨its, hil⟩ : ∃ its, h2.IsList lvl its := hll.elim (fun x => ⟨_, x⟩) fun x => ⟨_, x⟩
      refine wpAny_bind (wpAny_holding (wpAny_pyIter_list hil ?_))
      have hI2 : (h2.push (iterO lvl 0)).get? h2.objs.size = some (iterO lvl 0) := Heap.get?_push_size _ rfl
      have nI : h2.objs.size ≠ I := by rw [hsz2]; exact Nat.ne_of_gt hlt.1
      have nC : h2.objs.size ≠ cenv.locals := by rw [hsz2]; exact Nat.ne_of_gt hlt.2.1
      have nD : h2.objs.size ≠ D := by rw [hsz2]; exact Nat.ne_of_gt hlt.2.2
      have nL : lvl ≠ h2.objs.size := by
        obtain ⟨o, ho, _⟩ := hil
        exact Nat.ne_of_lt (Heap.lt_size ho)
      have hbI2 : base ≤ h2.objs.size := by rw [hsz2]; exact Nat.le_trans hIb (Nat.le_of_lt hlt.1)
      have up : ∀ b o, h2.get? b = some o → (h2.push (iterO lvl 0)).get? b = some o := fun b o e => Heap.get?_push_of_some _ e
      have hsz3 : (h2.push (iterO lvl 0)).objs.size = h2.objs.size + 1 := Heap.size_push _ _
      refine wpAny_bind (wpAny_runOwn (h := none) ?_)
      have hI2' : (h2.push (iterO lvl 0)).IsListIter h2.objs.size lvl 0 := ⟨_, hI2, rfl, rfl⟩
      refine nest_enter (lvl := lvl) hI2' ?_
      cases rest with
      | nil =>
        have hl1 : h2.IsList lvl #[.ref tp] := by obtain ⟨l, e, hl, _⟩ := hLv; cases e; exact hl
        refine nest_one (m := fun x => if x = lv then some (.ref lvl) else m x) (acc := #[]) (nD := 0) hh hI2 (isList_at hl1 (up _)) (hn2.keeps up) (up _ _ hD2) (Nat.zero_le _) hk2 hkf hdb nC nD n3 (Nat.ne_of_lt (Nat.lt_of_lt_of_le hlvb hCb)) (Nat.ne_of_lt (Nat.lt_of_lt_of_le hlvb hDb)) nL fun h4 tk4 m4 hn4 hm4 hD4 hk4 => ?_
        refine wpAny_pure ⟨rfl, codeAny_of_tree ?_⟩
        show wpAny _ A ((compTurn (nestE lv pv pp lp ep lp2 iter scope pos) 0 (.ref I) (.ref D) cenv).onRaise (fun x => do noteFrame x cenv; theTreesLotGoes x)) _ _ _
        refine wpAny_noted ?_
        have hit4 : h4.IsListIter I rv (i + 1) := ⟨_, hk4 I _ (Ne.symm nI) n1 n2 (up _ _ hit2), rfl, rfl⟩
        have hrv4 : h4.IsList rv items := isList_at hrv2 fun o ho => hk4 rv o (Nat.ne_of_lt (Nat.lt_of_lt_of_le hrv hbI2)) (Nat.ne_of_lt (Nat.lt_of_lt_of_le hrv hCb)) (Nat.ne_of_lt (Nat.lt_of_lt_of_le hrv hDb)) (up _ _ ho)
        have hend : items[i + 1]? = none := by
          rw [← Array.getElem?_toList]
          have := congrArg (·[0]?) hdr2
          simpa [List.getElem?_drop] using this
        refine wpAny_bind (wpAny_standAt (wpAny_bind (wpAny_pyNext_list_end hh hit4 hrv4 hend fun h5 hs5 => ?_)))
        refine wpAny_pure (hR h5 _ m4 (hn4.extBut hs5 (Ne.symm n1)) (hs5 D _ (Ne.symm n2) hD4) (fun b o hb e => hs5 b o (Nat.ne_of_lt (Nat.lt_of_lt_of_le hb hIb)) (hk4 b o (Nat.ne_of_lt (Nat.lt_of_lt_of_le hb hbI2)) (Nat.ne_of_lt (Nat.lt_of_lt_of_le hb hCb)) (Nat.ne_of_lt (Nat.lt_of_lt_of_le hb hDb)) (up _ _ (keep2 b o hb e)))))
      | cons v2 r2 =>
        have hl1 : h2.IsList lvl #[] := by obtain ⟨⟨l, e, hl, _⟩, _⟩ := hLv; cases e; exact hl
        refine nest_none hh hI2' (isList_at hl1 (up _)) fun h4 hs4 => ?_
        refine wpAny_pure ⟨rfl, ?_⟩
        have kk : ∀ b o, b ≠ h2.objs.size → h2.get? b = some o → h4.get? b = some o := fun b o hb e => hs4 b o hb (up _ _ e)
        refine ih (i + 1) { s with heap := h4, toks := s.toks + 1 } (fun x => if x = lv then some (.ref lvl) else m x) hdr2 (LevelsAt.keep (fun b o hb e => kk b o (Nat.ne_of_lt (Nat.lt_of_lt_of_le hb hbI2)) e) hLv.2) (kk I _ (Ne.symm nI) hit2)
          (isList_at hrv2 fun o ho => kk rv o (Nat.ne_of_lt (Nat.lt_of_lt_of_le hrv hbI2)) ho) (hn2.at' fun o ho => kk _ o (Ne.symm nC) ho) (kk D _ (Ne.symm nD) hD2) ?_ fun h' tk m' a1 a2 a3 => ?_
        · obtain ⟨oC, es, ep2, hoC, _⟩ := hn2
          exact ⟨Heap.lt_size (kk I _ (Ne.symm nI) hit2), Heap.lt_size (kk _ _ (Ne.symm nC) hoC), Heap.lt_size (kk D _ (Ne.symm nD) hD2)⟩
        · exact hR h' tk m' a1 a2 (fun b o hb e => a3 b o hb (kk b o (Nat.ne_of_lt (Nat.lt_of_lt_of_le hb hbI2)) (keep2 b o hb e)))
  case zfin => run_tac Mine.sq
end
end Mine

theorem Mine.use_M79b : True := by
  w_top off
  run_tac Mine.use ["linesP", "linesZZ"]
  trivial
namespace Mine
open PyProof.Rows
section
variable {prog : Program} {w : World} {A : Around} {E : Value → Shared → Prop} {s : Shared} {h₀ : Heap} {L : Addr} {m : Str → Option Value} {env : Env}
/-- the source of the nested comprehension -/
noncomputable def NSrc (A : Around) (h₀ : Heap) (L : Addr) (m : Str → Option Value) (tp : Addr) (Q : Value → Shared → Prop) (xv : Value) (s₁ : Shared) : Prop :=
  ∃ rv n items news, xv = .ref rv ∧ A.handled = none ∧ Fr h₀ L s₁.heap m ∧ News h₀ L s₁.heap news ∧ (rv, W.listOf items n) ∈ news ∧ LevelsAt s₁.heap tp s₁.heap.objs.size items.toList ∧
    ∀ D h' tk n', Fr h₀ L h' m → News h₀ L h' ((D, W.listOf #[.ref tp] n') :: news) → (∀ p ∈ news, p.1 < D) → Q (.ref D) { s₁ with heap := h', toks := tk }
theorem nest_eval {lv pv : Str} {pp lp ep lp2 : Pos} {iter : Expr} {scope : Scope} {pos : Pos} {cl : List (Str × Addr)} {tp : Addr} {Q : Value → Shared → Prop} (F₀ : Fr h₀ L s.heap m)
    (hclos : closureFor scope env = pure cl) (hcell : ∀ y ∈ scope.names, y.2 ≠ .cell) (hkind : scope.kind = .function)
    (hnames : ∀ y ∈ scope.names, y.2 = .local → scope.names.lookup y.1 = some .local) (hx1 : scope.names.lookup lv = some .local) (hx2 : scope.names.lookup pv = some .local) (hlp : lv ≠ pv) (hdb1 : (lv == ("__debug__" : Str)) = false) (hdb : (pv == ("__debug__" : Str)) = false)
    (h : wpAny (model prog w) A (eval iter env) (NSrc A h₀ L m tp Q) E s) (hs : ∀ x, foldedSetIterable iter env x = pure x := by intro _; rfl) :
    wpAny (model prog w) A (eval (.ListComp (.Name pv ep) [⟨.Name lv lp, iter, [], 0⟩, ⟨.Name pv pp, .Name lv lp2, [], 0⟩] scope pos) env) Q E s := by
  refine @Mine.sqz _ ?zmain ?zfin
  case zmain =>
    rw [eval_ListComp]
    refine wpAny_comprehension_free (use := none) rfl hs hclos hkind hnames (wpAny_mono h (fun xv s₁ h₁ => ?_) fun _ _ e => e)
    obtain ⟨rv, n, items, news, rfl, hh, F, N, hrv, hL, done⟩ := h₁
    have hl : s₁.heap.IsList rv items := News.isList N hrv
    have hlt : rv < s₁.heap.objs.size := by obtain ⟨_, e, _⟩ := hl; exact Heap.lt_size e
    refine wpAny_pyIter_list hl ?_
    have up1 : ∀ b o, s₁.heap.get? b = some o → (s₁.heap.push (iterO rv 0)).get? b = some o := fun b o e => Heap.get?_push_of_some _ e
    have hI0 : (s₁.heap.push (iterO rv 0)).get? s₁.heap.objs.size = some (iterO rv 0) := Heap.get?_push_size _ rfl
    have hszI : (s₁.heap.push (iterO rv 0)).objs.size = s₁.heap.objs.size + 1 := Heap.size_push _ _
    have hLI := F.ns.lt
    have fresh : ∀ b, L < b → h₀.get? b = none := fun b hb => Heap.get?_none_of_le (Nat.le_trans F.above (Nat.le_of_lt hb))
    generalize hbe : s₁.heap.objs.size = base at hI0 hszI hlt hLI hL ⊢
    generalize hH1 : s₁.heap.push (iterO rv 0) = H1 at up1 hI0 hszI ⊢
    refine wpAny_newObj_type (wpAny_newFunctionEnv hcell (by intro y hy; simp at hy) (fun h₁ hns₁ hsb₁ => ?_) hkind)
    dsimp only at hns₁ hsb₁ ⊢
    have hD0 : (H1.push { cls := .type "list", data := .seq ([] : List Value).toArray }).get? H1.objs.size = some (W.listOf #[] 0) := Heap.get?_push_size _ rfl
    have hszD : (H1.push { cls := .type "list", data := .seq ([] : List Value).toArray }).objs.size = base + 1 + 1 := by rw [Heap.size_push, hszI]
    have up2 : ∀ b o, H1.get? b = some o → (H1.push { cls := .type "list", data := .seq ([] : List Value).toArray }).get? b = some o := fun b o e => Heap.get?_push_of_some _ e
    rw [hszI] at hD0 ⊢
    generalize hH2 : H1.push { cls := .type "list", data := .seq ([] : List Value).toArray } = H2 at hns₁ hsb₁ hD0 hszD up2 ⊢
    rw [hszD] at hns₁ hsb₁ ⊢
    have old : ∀ b o, b < base + 1 + 1 → H2.get? b = some o → h₁.get? b = some o := fun b o hb e => hsb₁.extBut b o (Nat.ne_of_lt hb) (Heap.get?_push_of_some _ e)
    have keep : ∀ b o, b < base → s₁.heap.get? b = some o → h₁.get? b = some o := fun b o hb e => old b o (Nat.lt_succ_of_lt (Nat.lt_succ_of_lt hb)) (up2 _ _ (up1 _ _ e))
    have hI1 : h₁.get? base = some (iterO rv 0) := old _ _ (Nat.lt_succ_of_lt (Nat.lt_succ_self _)) (up2 _ _ hI0)
    have hD1 : h₁.get? (base + 1) = some (W.listOf #[] 0) := old _ _ (Nat.lt_succ_self _) hD0
    have hCl : base + 1 + 1 < h₁.objs.size := by obtain ⟨o, _, _, ho, _⟩ := hns₁; exact Heap.lt_size ho
    have loop : ∀ s₃ : Shared, s₃ = { s₁ with heap := h₁, toks := s₁.toks + ([] : List (Str × Value)).length } →
        codeAny (model prog w) A (.compLoop (nestE lv pv pp lp ep lp2 iter scope pos) 0 (.ref base) (.ref (base + 1)) (compEnvC scope cl (base + 1 + 1) env)) (compPost (model prog w) A E none Q (.ref (base + 1)) (base + 1 + 1)) s₃ := by
      rintro s₃ rfl
      refine nest_outer (cenv := compEnvC scope cl (base + 1 + 1) env) (base := base) (rv := rv) (tp := tp) (items := items) hh (lookup_relabel_local hx1) (lookup_relabel_local hx2) hlp (by simp [compEnvC, relabel, hkind]) hdb1 hdb hlt (Nat.le_refl _) (Nat.le_succ_of_le (Nat.le_succ _)) (Nat.le_succ _) (Nat.ne_of_lt (Nat.lt_succ_of_lt (Nat.lt_succ_self _))) (Nat.ne_of_lt (Nat.lt_succ_self _)) (Nat.ne_of_lt (Nat.lt_succ_self _))
        items.toList 0 _ _ rfl (LevelsAt.keep keep hL) hI1 (isList_at hl fun o ho => keep rv o hlt ho) hns₁ hD1 ⟨Nat.lt_trans (Nat.lt_succ_of_lt (Nat.lt_succ_self _)) hCl, hCl, Nat.lt_trans (Nat.lt_succ_self _) hCl⟩ fun h' tk m' hn' hD' hk' => ?_
      refine ⟨m', hn', fun h'' hs'' => ?_⟩
      have kk : ∀ b o, b < base → s₁.heap.get? b = some o → h''.get? b = some o := fun b o hb e => (hs''.2 b (Nat.ne_of_lt (Nat.lt_succ_of_lt (Nat.lt_succ_of_lt hb)))).trans (hk' b o hb (keep b o hb e))
      have nCD : base + 1 ≠ base + 1 + 1 := Nat.ne_of_lt (Nat.lt_succ_self _)
      have hC' : L < base + 1 + 1 := Nat.lt_succ_of_lt (Nat.lt_succ_of_lt hLI)
      refine done (base + 1) h'' tk 1 ⟨F.ns.at fun o e => kk L o hLI e, fun b o e => kk b o (by rw [← hbe]; exact Heap.lt_size (F.keep b o e)) (F.keep b o e), F.above⟩ (fun p hp => ?_) fun p hp => by rw [← hbe]; exact Nat.lt_succ_of_lt (Heap.lt_size (N p hp).1)
      rcases List.mem_cons.mp hp with rfl | hp
      · exact ⟨(hs''.2 _ nCD).trans hD', Nat.ne_of_gt (Nat.lt_succ_of_lt hLI), fresh _ (Nat.lt_succ_of_lt hLI)⟩
      · exact ⟨kk _ _ (by rw [← hbe]; exact Heap.lt_size (N p hp).1) (N p hp).1, (N p hp).2⟩
    exact codeAny_compStart_list (loop _ rfl) (wpAny_pyIter_listiter ⟨_, hI1, rfl, rfl⟩ (loop _ rfl))
  case zfin => run_tac Mine.sq
end
end Mine

theorem Mine.use_M79c : True := by
  w_top off
  run_tac Mine.use ["linesP", "lines", "clines", "linesZZ"]
  trivial
namespace Mine
open PyProof.Rows
theorem levels_snoc {h : Heap} {tp base : Addr} {v : Value} (hv : ∃ l, v = .ref l ∧ h.IsList l #[.ref tp] ∧ l < base) : ∀ xs : List Value, (∀ x ∈ xs, ∃ l, x = .ref l ∧ h.IsList l #[] ∧ l < base) → LevelsAt h tp base (xs ++ [v])
  | [], _ => hv
  | [x], hx => ⟨hx x (.head _), hv⟩
  | x :: y :: r, hx => ⟨hx x (.head _), levels_snoc hv (y :: r) fun z hz => hx z (.tail _ hz)⟩
theorem levels_of {h₀ h : Heap} {L : Addr} {news : List (Addr × Obj)} {dsi : Array Value} {l4 tp : Addr} {n4 : Nat} (N : News h₀ L h news) (hst : StackIs news dsi l4) (h4 : (l4, W.listOf #[.ref tp] n4) ∈ news) : LevelsAt h tp h.objs.size dsi.toList.reverse := by
  refine @Mine.sqz _ ?zmain ?zfin
  case zmain =>
    obtain ⟨h0, hr⟩ := hst
    obtain ⟨l⟩ := dsi
    cases l with
    | nil => cases h0
    | cons v r =>
      have ev : v = .ref l4 := Option.some.inj h0
      rw [show (Array.mk (v :: r)).toList.reverse = r.reverse ++ [v] by simp]
      refine levels_snoc ⟨l4, ev, News.isList N h4, Heap.lt_size (N _ h4).1⟩ _ fun x hx => ?_
      have hx2 : x ∈ r := List.mem_reverse.mp hx
      obtain ⟨i, hi, e⟩ := List.getElem_of_mem hx2
      obtain ⟨a, n, rfl, hm⟩ := hr (i + 1) x (Nat.succ_pos _) (by
        rw [List.getElem?_toArray, List.getElem?_cons_succ, List.getElem?_eq_getElem hi, e])
      exact ⟨a, rfl, News.isList N hm, Heap.lt_size (N _ hm).1⟩
  case zfin => run_tac Mine.sq
section
theorem Mine.row_M79c_79c_iter_0 : True := by
  k_with "@79c_iter_0@subscriptTail Name Slice ref ref" => ((k_here; k_dflt (refine' krv_lit ?F ?N ?l ?k ?e ?_ ?s ?t ?z; (case F => k_asm); (case N => k_asm); (case l => exact News.isList (by k_asm) (by assumption)); (case k => exact IsPart.int _ _); (case e => rfl); (case s => with_unfolding_all rfl); (case t => (intro _; with_unfolding_all rfl)); (case z => (rw [sizeLine_eq]; omega))); intro D' h' F' N' l1))
  trivial

theorem Mine.use_M79c_79c_iter_0 : True := by
  w_top off
  run_tac Mine.use ["linesP", "lines", "clines", "linesZZ", "79c_iter_0"]
  trivial

theorem iter_lam {w : World} {kf c' l4 tp : Addr} {och : Obj} {qual : Str} {q1 q2 q3 q4 q5 q6 q7 q8 q9 q10 pp : Pos} {sc : Scope} {mr : List (Str × Const)} {pm ctv : Value} {T C : List (Addr × Obj)}
  (hm : (kf, kla_obj "<lambda>" qual { posonlyargs := [], args := [{ arg := Str.ofString "stack", annotation := none, pos := pp }], vararg := none, kwonlyargs := [], kw_defaults := [], kwarg := none, defaults := [] }
    (.ListComp (.Name (Str.ofString "pair") q1) [⟨.Name (Str.ofString "level") q2, .Subscript (.Name (Str.ofString "stack") q3) (.Slice none none (some (.UnaryOp .USub (.Constant (.int 1) 0 q9) q10)) q4) q5, [], 0⟩, ⟨.Name (Str.ofString "pair") q6, .Name (Str.ofString "level") q7, [], 0⟩] sc q8)
    { kind := .function, names := [(Str.ofString "stack", .local)], isGenerator := false, isCoroutine := false, more := mr } [] pm c' ctv) ∈ C)
  (hci : CodeIn T qual (.ref c') c' och) (hT : (c', och) ∈ C) (hcell : ∀ y ∈ sc.names, y.2 ≠ .cell) (hfree : ∀ y ∈ sc.names, y.2 ≠ .free) (hkind : sc.kind = .function)
  (hnames : ∀ y ∈ sc.names, y.2 = .local → sc.names.lookup y.1 = some .local) (hx1 : sc.names.lookup (Str.ofString "level") = some .local) (hx2 : sc.names.lookup (Str.ofString "pair") = some .local) : IterSpec w kf l4 tp C := by
  refine @Mine.sqz _ ?zmain ?zfin
  case zmain =>
    intro A₀ base h₀ outer env L m s lo me mg mb R d u gd ds dsi nd n4 news B F X N T0 hf hke hd hu hC hds h4 hst hz h
    obtain ⟨vs, tq, hd1, hd2⟩ := hci.data
    revert X; k_fill; intro X
    refine' kla_code (binds := [(Str.ofString "stack", .ref ds)]) B F X N T0 rfl hf hke (hC _ hm) (codeRec_news N (hC _ hT) hd1 hd2) ?room ?bind ?loc ?_ rfl rfl rfl ?cell
    case room => exact Nat.lt_of_lt_of_le hd (Nat.le_of_ble_eq_true rfl)
    case bind => exact rfl
    case loc => intro y hy; rcases List.mem_singleton.mp hy with rfl; rfl
    case cell => intro y hy; rcases List.mem_singleton.mp hy with rfl; exact fun e => by cases e
    intro g' L' h' FG' F' N' B' X' T'
    have hcl : ∃ cl, closureFor sc (envX qual { kind := .function, names := [(Str.ofString "stack", .local)], isGenerator := false, isCoroutine := false, more := mr } L' kf (.ref c') []) = pure cl := by
      exact ⟨[], closure_none hfree⟩
    obtain ⟨cl, hcl⟩ := hcl
    refine nest_eval (tp := tp) F' hcl hcell hkind hnames hx1 hx2 (by decide) (by decide +kernel) (by decide +kernel) ?_
    k_steps
    rename_i zF zN zl
    refine ⟨_, _, _, _, rfl, rfl, zF, zN, .head _, ?_, ?_⟩
    · rw [List.toList_toArray]
      exact levels_of (fun p hp => zN p (.tail _ hp)) hst h4
    · intro D hh tkk n' F3 N3 l3
      exact leaveK_ F3 N3 fun F4 N4 => h _ _ _ _ F4 (fun p hp => N4 p ((List.mem_cons.mp hp).elim (fun e => e ▸ .head _) fun e => .tail _ (.tail _ e))) fun p hp => l3 p (.tail _ hp)
  case zfin => run_tac Mine.sq
end
end Mine

theorem Mine.use_M03d : True := by
  w_top off
  run_tac Mine.use ["linesP", "linesZZ"]
  trivial
namespace Mine
open PyProof.Rows
noncomputable abbrev StD (s : Shared) (h : Heap) (g : Array GenState) (tk : Nat) (dr : Drawn) : Shared := { s with heap := h, gens := g, toks := tk, drawn := dr }
section
variable {prog : Program} {w : World} {A : Around} {E : Value → Shared → Prop} {s : Shared} {h₀ : Heap} {env : Env} {L : Addr} {target : Expr} {body : List Stmt} {Q : Flow → Shared → Prop}
/-- where a turn of a loop may end -/
noncomputable def TurnEndD (h₀ : Heap) (L : Addr) (s : Shared) (it : Addr) (io : Obj) (Φ : (Str → Option Value) → List (Addr × Obj) → Array GenState → Prop) (Q : Flow → Shared → Prop) (f : Flow) (s' : Shared) : Prop :=
  match f with
  | .brk => Q .next s'
  | .ret v => Q (.ret v) s'
  | _ => ∃ h' g' tk' dr' m' news', s' = StD s h' g' tk' dr' ∧ Fr h₀ L h' m' ∧ News h₀ L h' ((it, io) :: news') ∧ (∀ p ∈ news', p.1 ≠ it) ∧ Φ m' news' g'
theorem TurnEndD.intro {it : Addr} {io : Obj} {Φ : (Str → Option Value) → List (Addr × Obj) → Array GenState → Prop} {h' g' tk' dr' m' news'} (F : Fr h₀ L h' m') (N : News h₀ L h' ((it, io) :: news')) (d : ∀ p ∈ news', p.1 ≠ it) (φ : Φ m' news' g') :
    TurnEndD h₀ L s it io Φ Q .next (StD s h' g' tk' dr') := ⟨h', g', tk', dr', m', news', rfl, F, N, d, φ⟩
theorem for_listD {l : Addr} {vs : Array Value} {m₀ : Str → Option Value} {news₀ : List (Addr × Obj)} (Φ : Nat → (Str → Option Value) → List (Addr × Obj) → Array GenState → Prop)
    (hh : A.handled = none) (F : Fr h₀ L s.heap m₀) (N : News h₀ L s.heap news₀)
    (hl : ∀ i m news g h, Φ i m news g → Fr h₀ L h m → News h₀ L h news → h.IsList l vs) (start : Φ 0 m₀ news₀ s.gens)
    (turn : ∀ i v m news g h tk dr it E', vs[i]? = some v → Φ i m news g → Fr h₀ L h m → News h₀ L h ((it, iterO l (i + 1)) :: news) → (∀ p ∈ news, p.1 ≠ it) →
      wpAny (model prog w) A (letOwnedTupleGo target (.ref it) v) (fun _ s₁ => wpAny (model prog w) A (assign target env v) (fun _ s₂ =>
        wpAny (model prog w) A (execs body env) (TurnEndD h₀ L s it (iterO l (i + 1)) (Φ (i + 1)) Q) E' s₂) E' s₁) E' (StD s h g tk dr))
    (done : ∀ m news g h tk dr, Φ vs.size m news g → Fr h₀ L h m → News h₀ L h news → Q .next (StD s h g tk dr)) :
    wpAny (model prog w) A (pyIter (.ref l)) (fun it s₂ => codeAny (model prog w) A (.forLoop target it body [] env) (fun r s' => match r with | .ok f => Q f s' | .error e => cameBackBy (model prog w) A env E e s') s₂) E s := by
  refine wpAny_pyIter_list (hl 0 _ _ _ _ start F N) ?_
  let I : Nat → Shared → Prop := fun n s' => ∃ i m news g h tk dr, n = vs.size - i ∧ i ≤ vs.size ∧ s' = StD s h g tk dr ∧ Φ i m news g ∧ Fr h₀ L h m ∧ News h₀ L h ((s.heap.objs.size, iterO l i) :: news) ∧ (∀ p ∈ news, p.1 ≠ s.heap.objs.size)
  refine codeAny_forLoop_any I (fun n s' hI => ?_) vs.size ⟨0, m₀, news₀, s.gens, _, s.toks, s.drawn, rfl, Nat.zero_le _, rfl, start, F.push _, N.push F _, N.apart⟩
  obtain ⟨i, m, news, g, h, tk, dr, rfl, hi, rfl, φ, F', N', d⟩ := hI
  have hit : (StD s h g tk dr).heap.IsListIter s.heap.objs.size l i := ⟨_, (N' _ (.head _)).1, rfl, rfl⟩
  have hL := hl i m news g h φ F' (fun p hp => N' p (.tail _ hp))
  have hz := N' _ (.head _)
  cases e : vs[i]? with
  | none =>
    have hi' : i = vs.size := Nat.le_antisymm hi (by have := Array.getElem?_eq_none_iff.mp e; exact this)
    subst hi'
    refine wpAny_pyNext_list_end hh hit hL e fun h' hs => ?_
    have F'' : Fr h₀ L h' m := by
      obtain ⟨o, es, ep, ho, r⟩ := F'.ns
      exact ⟨⟨o, es, ep, hs _ _ (Ne.symm hz.2.1) ho, r⟩, fun b ob eb => hs _ _ (fun q => by rw [← q, eb] at hz; exact absurd hz.2.2 (by simp)) (F'.keep b ob eb), F'.above⟩
    exact wpAny_pure (done m news g h' tk dr φ F'' fun p hp => ⟨hs _ _ (d p hp) (N' p (.tail _ hp)).1, (N' p (.tail _ hp)).2⟩)
  | some v =>
    refine next_item (N' _ (.head _)).1 hL e fun h' hit' hs => ?_
    have hi' : i < vs.size := by
      have := (Array.getElem?_eq_some_iff.mp e).1; exact this
    have N'' : News h₀ L h' ((s.heap.objs.size, iterO l (i + 1)) :: news) := N'.setHead d hs hit'
    refine wpAny_mono (turn i v m news g h' tk dr _ _ e φ (F'.change hs hz.2.1 hz.2.2) N'' d) (fun _ s₁ h₁ => wpAny_mono h₁ (fun _ s₂ h₂ => wpAny_mono h₂ (fun f s₃ h₃ => ?_) fun _ _ x => x) fun _ _ x => x) fun _ _ x => x
    have fin : (∃ h' g' tk' dr' m' news', s₃ = StD s h' g' tk' dr' ∧ Fr h₀ L h' m' ∧ News h₀ L h' ((s.heap.objs.size, iterO l (i + 1)) :: news') ∧ (∀ p ∈ news', p.1 ≠ s.heap.objs.size) ∧ Φ (i + 1) m' news' g') → ∃ k, k < vs.size - i ∧ I k s₃ := by
      rintro ⟨h'', g', tk', dr', m', news', rfl, a1, a2, a3, a4⟩
      exact ⟨vs.size - (i + 1), by omega, i + 1, m', news', g', h'', tk', dr', rfl, hi', rfl, a4, a1, a2, a3⟩
    cases f with
    | brk => exact h₃
    | ret v => exact h₃
    | next => exact fin h₃
    | cont => exact fin h₃
end
end Mine

theorem Mine.use_M79d : True := by
  w_top off
  run_tac Mine.use ["linesP", "linesZZ"]
  trivial
namespace Mine
theorem slice_head_tail (x : Str) : Txt.slice x none (some 1) ++ Txt.slice x (some 1) none = x := by
  refine @Mine.sqz _ ?zmain ?zfin
  case zmain =>
    by_cases h0 : x.cps.toList.length = 0
    · obtain ⟨⟨l⟩⟩ := x
      have : l = [] := List.eq_nil_of_length_eq_zero h0
      subst this
      decide
    · have h1 : 1 ≤ x.cps.toList.length := Nat.one_le_iff_ne_zero.mpr h0
      have e1 : Txt.slice x none (some 1) = PySem.StrLaws.sliceText x none (some 1) := rfl
      have e2 : Txt.slice x (some 1) none = PySem.StrLaws.sliceText x (some 1) none := rfl
      rw [e1, e2, PySem.StrLaws.sliceText_to ⟨by decide, by omega⟩, PySem.StrLaws.sliceText_from ⟨by decide, by omega⟩]
      obtain ⟨⟨l⟩⟩ := x
      show (⟨(((l.drop 0).take _).toArray ++ ((l.drop _).take _).toArray)⟩ : Str) = ⟨⟨l⟩⟩
      have e3 : ((1 : Int) - 0).toNat = 1 := rfl
      have e4 : ((1 : Int)).toNat = 1 := rfl
      have e5 : (((l.length : Nat) : Int) - 1).toNat = l.length - 1 := by omega
      simp only [List.drop_zero, e3, e4, e5, List.append_toArray]
      have e6 : (l.drop 1).take (l.length - 1) = l.drop 1 := List.take_of_length_le (by rw [List.length_drop]; exact Nat.le_refl _)
      rw [e6, List.take_append_drop]
  case zfin => run_tac Mine.sq
end Mine

theorem Mine.use_M65b : True := by
  w_top off
  run_tac Mine.use ["linesP", "linesZZ"]
  trivial
namespace Mine
/-- what the two lambdas stand on: in the kept part of the ledger, or among the codes that tables hold -/
noncomputable def CIn (C E T : List (Addr × Obj)) : Prop := ∀ p ∈ C, p ∈ E ∨ (p ∈ T ∧ ∀ q ∈ tabList, p.1 ≠ q.1)
theorem CIn.le {C E T T' : List (Addr × Obj)} (h : CIn C E T) (k : TabsLe T T') : CIn C E T' := fun p hp => (h p hp).imp id fun a => ⟨k p a.1 a.2, a.2⟩
theorem CIn.up {C E E' T : List (Addr × Obj)} (h : CIn C E T) (k : ∀ p ∈ E, p ∈ E') : CIn C E' T := fun p hp => (h p hp).imp (k p) id
theorem CIn.use {C E T T' news : List (Addr × Obj)} (h : CIn C E T) (k : TabsLe T T') (a : ∀ p ∈ E, p ∈ news) (b : ∀ p ∈ T', p ∈ news) : ∀ p ∈ C, p ∈ news := fun p hp => (h p hp).elim (a p) fun x => b p (k p x.1 x.2)
end Mine
namespace Mine
/-- a piece of the sheet: a tuple of two texts that join to x -/
noncomputable def Piece (E : List (Addr × Obj)) (t : Addr) (x : Str) : Prop := ∃ b g t1 t2, (t, tupO [.str b t1, .str g t2]) ∈ E ∧ b ++ g = x ∧ b.length ≤ 100 ∧ g.length ≤ 100
theorem Piece.intro {E : List (Addr × Obj)} {t : Addr} {x b g : Str} {t1 t2 : Tok} (h : (t, tupO [.str b t1, .str g t2]) ∈ E) (e : b ++ g = x) (h1 : b.length ≤ 100) (h2 : g.length ≤ 100) : Piece E t x := ⟨b, g, t1, t2, h, e, h1, h2⟩
/-- what stays apart from the objects that a writer's call changes -/
structure Off6 (E : List (Addr × Obj)) (x dx pr ns a hdl : Addr) : Prop where
  x : ∀ p ∈ E, p.1 ≠ x
  dx : ∀ p ∈ E, p.1 ≠ dx
  pr : ∀ p ∈ E, p.1 ≠ pr
  ns : ∀ p ∈ E, p.1 ≠ ns
  a : ∀ p ∈ E, p.1 ≠ a
  hdl : ∀ p ∈ E, p.1 ≠ hdl
theorem Off6.cons {E : List (Addr × Obj)} {x dx pr ns a hdl : Addr} {q : Addr × Obj} (h : Off6 E x dx pr ns a hdl) (h1 : q.1 ≠ x) (h2 : q.1 ≠ dx) (h3 : q.1 ≠ pr) (h4 : q.1 ≠ ns) (h5 : q.1 ≠ a) (h6 : q.1 ≠ hdl) : Off6 (q :: E) x dx pr ns a hdl :=
  ⟨List.forall_mem_cons.mpr ⟨h1, h.x⟩, List.forall_mem_cons.mpr ⟨h2, h.dx⟩, List.forall_mem_cons.mpr ⟨h3, h.pr⟩, List.forall_mem_cons.mpr ⟨h4, h.ns⟩, List.forall_mem_cons.mpr ⟨h5, h.a⟩, List.forall_mem_cons.mpr ⟨h6, h.hdl⟩⟩
end Mine

theorem Mine.row_linesW : True := by
  k_with "@linesW@call builtin:list.append" => ((k_here; (with_reducible show wpAny _ _ (call (Value.builtin _) [Value.ref _, _]) _ _ _); k_dflt (refine' Mine.list_append_U ?F ?N ?U ?z ?_; (case F => k_asm); (case N => k_asm); (case U => k_updF); (case z => first | omega | (simp only [Array.size_push]; omega) | exact Nat.le_of_ble_eq_true rfl)); intro h' F' N'; (try dsimp only at N'); (try k_sweep); (try dsimp only)))
  k_with "@linesW@eval Name" => ((k_here; (with_reducible show wpAny _ _ (eval (Expr.Name _ _) (envX _ _ _ _ _ _)) _ _ _); k_dflt (first | (refine' nameX_F ?N ?c ?m ?d ?_ ?a ?b; (case a => rfl); (case b => rfl); (case N => k_asm); (case c => rfl); (case m => run_tac Mine.memT); (case d => assumption)) | (refine' nameX_L ?F ?v ?_ ?a ?b; (case F => k_asm); (case a => rfl); (case b => rfl); (case v => rfl)))))
  trivial
theorem Mine.use_M79e : True := by
  w_top off
  run_tac Mine.use ["linesP", "lines", "clines", "clines2", "lines3", "lines4", "lines5", "lines6", "lines7", "linesW", "linesZZ"]
  trivial
namespace Mine
open PyProof.Rows
theorem updF2_open {h₀ h : Heap} {L a hdl : Addr} {o : Obj} {its : Array Value} {n : Nat} {news : List (Addr × Obj)} {g1 : Obj → List (Addr × Obj)} {g2 : Obj → Obj → List (Addr × Obj)} (N : News h₀ L h news) (U1 : UpdF a o news g1) (U2 : ∀ x, UpdF hdl (W.listOf its n) (g1 x) (g2 x)) :
    ∃ rest, (∀ p ∈ rest, p.1 ≠ a) ∧ (∀ p ∈ rest, p.1 ≠ hdl) ∧ a ≠ hdl ∧ News h₀ L h ((a, o) :: (hdl, W.listOf its n) :: rest) ∧ (∀ p ∈ (a, o) :: (hdl, W.listOf its n) :: rest, p ∈ news) ∧ (∀ p ∈ news, p ∈ (a, o) :: (hdl, W.listOf its n) :: rest) ∧
      ∀ x y, ∀ p ∈ g2 x y, p ∈ (a, x) :: (hdl, y) :: rest := by
  refine @Mine.sqz _ ?zmain ?zfin
  case zmain =>
    obtain ⟨r1, e1, f1, d1⟩ := updF_head U1
    have hr : ∀ x, (hdl, W.listOf its n) ∈ (a, x) :: r1 := fun x => by
      obtain ⟨r2, e2, _, _⟩ := updF_head (U2 x)
      exact (f1 x _).mp ((e2 _).mpr (.head _))
    have hm : (hdl, W.listOf its n) ∈ r1 := by
      rcases List.mem_cons.mp (hr ⟨.none, none, .fields #[], #[]⟩) with e | e
      · cases congrArg (fun p : Addr × Obj => p.2.data) e
      · exact e
    have hne : a ≠ hdl := fun e => d1 _ hm e.symm
    refine ⟨r1.filter (fun p => p.1 != hdl), fun p hp => d1 p (List.mem_filter.mp hp).1, fun p hp => by simpa using (List.mem_filter.mp hp).2, hne, ?_, ?_, ?_, ?_⟩
    · refine news_sub N fun p hp => (e1 p).mpr ?_
      rcases List.mem_cons.mp hp with rfl | hp
      · exact .head _
      rcases List.mem_cons.mp hp with rfl | hp
      · exact .tail _ hm
      · exact .tail _ (List.mem_filter.mp hp).1
    · intro p hp
      refine (e1 p).mpr ?_
      rcases List.mem_cons.mp hp with rfl | hp
      · exact .head _
      rcases List.mem_cons.mp hp with rfl | hp
      · exact .tail _ hm
      · exact .tail _ (List.mem_filter.mp hp).1
    · intro p hp
      rcases List.mem_cons.mp ((e1 p).mp hp) with rfl | hp2
      · exact .head _
      · by_cases e : p.1 = hdl
        · obtain ⟨b, ob⟩ := p
          obtain rfl : b = hdl := e
          have hb := news_same N hp ((e1 _).mpr (.tail _ hm))
          subst hb
          exact .tail _ (.head _)
        · exact .tail _ (.tail _ (List.mem_filter.mpr ⟨hp2, by simpa using e⟩))
    · intro x y p hp
      obtain ⟨r2, e2, f2, d2⟩ := updF_head (U2 x)
      rcases List.mem_cons.mp ((f2 y p).mp hp) with rfl | hp2
      · exact .tail _ (.head _)
      · have h3 := (f1 x p).mp ((e2 p).mpr (.tail _ hp2))
        rcases List.mem_cons.mp h3 with rfl | h3
        · exact .head _
        · exact .tail _ (.tail _ (List.mem_filter.mpr ⟨h3, by simpa using d2 p hp2⟩))
  case zfin => run_tac Mine.sq
theorem write_lam {w : World} {wf a dxS hdl c' c1 c2 : Addr} {och oc1 oc2 : Obj} {qual : Str} {pm ctv : Value} {T C : List (Addr × Obj)}
  (hm : (wf, kla_obj "<lambda>" qual { posonlyargs := [], args := [{ arg := "piece", annotation := none, pos := ⟨326, 37, 326, 42⟩ }], vararg := none, kwonlyargs := [], kw_defaults := [], kwarg := none, defaults := [] }
    (.Call (.Attribute (.Name "heard" ⟨326, 44, 326, 49⟩) "append" ⟨326, 44, 326, 56⟩) [.Call (.Attribute (.Name "sheet" ⟨326, 57, 326, 62⟩) "push" ⟨326, 57, 326, 67⟩) [.Subscript (.Name "piece" ⟨326, 68, 326, 73⟩) (.Slice none (some (.Constant (.int 1) 0 ⟨326, 75, 326, 76⟩)) none ⟨326, 74, 326, 76⟩) ⟨326, 68, 326, 77⟩, .Subscript (.Name "piece" ⟨326, 79, 326, 84⟩) (.Slice (some (.Constant (.int 1) 0 ⟨326, 85, 326, 86⟩)) none none ⟨326, 85, 326, 87⟩) ⟨326, 79, 326, 88⟩] [] ⟨326, 57, 326, 89⟩] [] ⟨326, 44, 326, 90⟩)
    { kind := .function, names := [(Str.ofString "piece", .local), (Str.ofString "heard", .free), (Str.ofString "sheet", .free)], isGenerator := false, isCoroutine := false } [(Str.ofString "sheet", c2), (Str.ofString "heard", c1)] pm c' ctv) ∈ C)
  (hci : CodeIn T qual (.ref c') c' och) (hT : (c', och) ∈ C) (h1 : (c1, oc1) ∈ C) (hd1 : oc1.data = .cell (some (.ref hdl))) (h2 : (c2, oc2) ∈ C) (hd2 : oc2.data = .cell (some (.ref a))) : WriteSpec w wf a dxS hdl C := by
  refine @Mine.sqz _ ?zmain ?zfin
  case zmain =>
    intro A₀ base h₀ outer env L m s lo me mg mb R d u gd items hitems n nh ti iv piece pt news g1 g2 B F X N T0 hf hke hd hu hC U1 U2 hdx hz1 hz2 hp h
    obtain ⟨vs, tq, hv1, hv2⟩ := hci.data
    obtain ⟨rest, r1, r2, hne, N0, i1, i2, i3⟩ := updF2_open N U1 U2
    have key : ∀ {p : Addr × Obj}, p ∈ C → (∀ its n, p.2 ≠ W.listOf its n) → (∀ its n, p.2 ≠ accO dxS its n) → p ∈ rest := by
      intro p hp q1 q2
      rcases List.mem_cons.mp (i2 p (hC p hp)) with rfl | h
      · exact absurd rfl (q2 _ _)
      rcases List.mem_cons.mp h with rfl | h
      · exact absurd rfl (q1 _ _)
      · exact h
    have hdx0 : (dxS, iniD w ti iv) ∈ rest := by
      rcases List.mem_cons.mp (i2 _ hdx) with e | h
      · cases congrArg (fun p : Addr × Obj => p.2.data) e
      rcases List.mem_cons.mp h with e | h
      · cases congrArg (fun p : Addr × Obj => p.2.data) e
      · exact h
    replace h1 := key h1 (fun its n e => by rw [show oc1 = _ from e] at hd1; cases hd1) (fun its n e => by rw [show oc1 = _ from e] at hd1; cases hd1)
    replace h2 := key h2 (fun its n e => by rw [show oc2 = _ from e] at hd2; cases hd2) (fun its n e => by rw [show oc2 = _ from e] at hd2; cases hd2)
    have m1 := key hm (fun its n e => by cases congrArg Obj.data e) (fun its n e => by cases congrArg Obj.data e)
    have m2 := codeRec_news N (hC _ hT) hv1 hv2
    have fin : ∀ t h' tk' b g t1 t2, Fr h₀ L h' m → News h₀ L h' ((t, tupO [.str b t1, .str g t2]) :: (a, accO dxS (items.push (.ref t)) (n + 1)) :: (hdl, W.listOf (hitems.push .none) (nh + 1)) :: rest) → (∀ p ∈ (a, accO dxS items n) :: (hdl, W.listOf hitems nh) :: rest, p.1 < t) → b ++ g = piece → b.length ≤ 100 → g.length ≤ 100 → R (.ok (.ret .none)) (St s h' s.gens tk') :=
      fun t h' tk' b g t1 t2 F' N' lt => h t h' tk' b g t1 t2 F' (news_sub N' fun p hp => (List.mem_cons.mp hp).elim (fun e => e ▸ .head _) fun e => .tail _ (i3 _ _ p e)) fun p hp => lt p (i2 p hp)
    clear h hdx U1 U2 i1 i2 i3 key
    replace hne : @Ne Nat a hdl := hne
    revert X; k_fill; intro X
    refine' kla_code (binds := [(Str.ofString "piece", .str piece pt)]) B F X N0 T0 rfl hf hke (.tail _ (.tail _ m1)) m2 ?room ?bind ?loc ?_ rfl rfl rfl ?cell
    case room => exact Nat.lt_of_lt_of_le hd (Nat.le_of_ble_eq_true rfl)
    case bind => exact rfl
    case loc => intro y hy; rcases List.mem_singleton.mp hy with rfl; rfl
    case cell => decide
    intro g' L' h' FG' F' N' B' X' T'
    k_steps
    rename_i z1 _ _ _ _ z2 t2 h2 tk2 l1 h3 F3 N3 kF kN Tc kX
    exact fin t2 h3 tk2 _ _ _ _ kF kN (allLt_mem (l := (a, accO dxS items n) :: (hdl, W.listOf hitems nh) :: rest) l1) (slice_head_tail piece) (Nat.le_trans (Nat.le_trans (Txt.slice_le _ _ _) hp) (by decide)) (Nat.le_trans (Nat.le_trans (Txt.slice_le _ _ _) hp) (by decide))
  case zfin => run_tac Mine.sq
end Mine

theorem Mine.row_linesQ : True := by
  k_with "@linesQ@eval Set" => ((k_here; k_dflt (refine' Mine.disp_star ?F ?N ?X ?c ?s1 ?_; (case F => k_asm); (case N => k_asm); (case X => k_asm); (case c => first | k_is | kernel_rfl!); (case s1 => rfl)); intro D' h' F' N' l1; (try k_lt l1)))
  k_with "@linesQ@setAdd str" => ((k_here; k_dflt (refine' Mine.add_first_K ?F ?N ?U ?_; (case F => k_asm); (case N => k_asm); (case U => k_updF)); intro j' h' F' N'; (try dsimp only at N')))
  k_with "@linesQ@setDisplayStar" => ((k_here; k_dflt (refine' Mine.star_one_K ?hh ?F ?N ?U ?c1 ?c2 ?c3 ?c4 ?_; (case hh => exact rfl); (case F => k_asm); (case N => k_asm); (case U => k_updF); (case c1 => run_tac Mine.memT); (case c2 => assumption); (case c3 => assumption); (case c4 => first | assumption | decide)); intro h' tk' t1' o' F' N' ho'; (try dsimp only at N')))
  k_with "@linesQ@setDisplayStar" => ((k_here; k_dflt (refine' Mine.star_none_K ?hh ?F ?N ?U ?c1 ?c2 ?c3 ?_; (case hh => exact rfl); (case F => k_asm); (case N => k_asm); (case U => run_tac Mine.memT); (case c1 => run_tac Mine.memT); (case c2 => assumption); (case c3 => assumption)); intro h' tk' F' N'))
  k_with "@linesQ@exec Assign cons DictComp" => ((k_here; k_dflt (refine' Mine.assign_dcomp ?F ?e ?sw ?cl ?ce ?ki ?nm ?hx ?hy ?hp ?_ ?hs; (case F => k_asm); (case e => rfl); (case sw => with_unfolding_all rfl); (case cl => with_unfolding_all rfl); (case ce => decide); (case ki => rfl); (case nm => decide); (case hx => rfl); (case hy => rfl); (case hp => rfl); (case hs => intro _; rfl))))
  k_with "@linesQ@eval Lambda" => ((k_here; k_dflt (refine' kla_eval ?d0 ?_; (case d0 => exact rfl)); k_dflt (first | (refine' Mine.lam_T (P := 234) (c := 236) (qn := "C14NWriterTarget._start.<locals>.<lambda>") ?F ?N ?s ?X ?T ?T0 ?C ?cd ?P ?q ?cl ?_; (case cd => exact rfl); (case F => k_asm); (case N => k_asm); (case T => assumption); (case s => (repeat' (first | exact Mine.Split.app | exact Mine.Split.nil | refine' Mine.Split.cons ?_))); (case X => (repeat' (first | assumption | (refine List.forall_mem_cons.mpr ⟨?_, ?_⟩) | exact List.forall_mem_nil _ | exact rfl | exact Mine.isTabE_cell (by assumption) | exact Mine.isTabE_dict (by assumption) | exact Mine.isTabE_two (by assumption) | exact Mine.isTabE_dct (by assumption) | fail))); (case T0 => k_asm); (case C => exact codeHd_of_K (by k_asm) (by kernel_rfl)); (case q => exact rfl); (case P => decide); (case cl => exact rfl))); intro f' c' oc' ct' h' tk' Tn' F' N' hT' hle' hci' l1; (try dsimp only at N'); (try k_lt l1); (try simp only [List.cons_append, List.nil_append] at N')))
  k_with "@linesQ@call builtin:sorted" => ((k_here; ksk_show; k_dflt (refine' Mine.sort_two ?B ?F ?X ?N ?T ?cf ?ck ?cd ?cu ?c1 ?c2 ?c3 ?c4 ?c5 ?c6 ?c7 ?c8 ?c9 ?c10 ?_; (case B => k_asm); (case F => k_asm); (case X => k_asm); (case N => k_asm); (case T => k_asm); (case cf => exact rfl); (case ck => exact rfl); (case cd => ((try dsimp only [Around.deeper, Around.in1]); first | exact Nat.lt_of_lt_of_le (by assumption) (by decide) | exact Nat.lt_of_lt_of_le (Nat.succ_lt_succ (by assumption)) (by decide) | exact Nat.lt_of_lt_of_le (Nat.succ_lt_succ (Nat.succ_lt_succ (by assumption))) (by decide) | omega)); (case cu => ((try dsimp only [Around.deeper, Around.in1]); first | exact Nat.lt_of_lt_of_le (by assumption) (by decide) | exact Nat.lt_of_lt_of_le (Nat.succ_lt_succ (by assumption)) (by decide) | exact Nat.lt_of_lt_of_le (Nat.succ_lt_succ (Nat.succ_lt_succ (by assumption))) (by decide) | omega)); (case c1 => run_tac Mine.memT); (case c2 => assumption); (case c3 => exact fun p hp => hp); (case c4 => (refine' Mine.split_lam ?hm ?hc ?hT ?hl; (case hc => assumption); (case hm => run_tac Mine.memT); (case hT => (intro p hp; repeat' (first | exact hp | exact List.mem_append_right _ hp | refine List.Mem.tail _ ?_))); (case hl => rfl))); (case c5 => decide); (case c6 => decide); (case c7 => decide +kernel); (case c8 => decide +kernel); (case c9 => decide +kernel); (case c10 => decide +kernel)); intro D' n' h' tk' dr' F' N' l1; (try k_lt l1)))
  trivial
theorem Mine.row_linesD : True := by
  k_with "@linesD@truthy ref" => ((k_here; k_dflt (refine' Mine.truthy_D ?N ?m ?d ?lo ?z ?_; (case N => k_asm); (case m => run_tac Mine.memT); (case d => assumption); (case lo => assumption); (case z => exact Nat.le_of_ble_eq_true rfl)); (try simp only [List.isEmpty_cons, List.isEmpty_nil, Bool.not_false, Bool.not_true])))
  k_with "@linesD@getMethod ref" => ((k_here; k_dflt (first | ((with_reducible show wpAny _ _ (getMethod (Value.ref _) (Str.ofString "items") _) _ _ _); refine' kdl_method (knd := PySem.strKind _ _) PySem.F.slot_dict_items PySem.F.type_dict_items ?N ?m ?d ?_; (case N => k_asm); (case m => run_tac Mine.memT); (case d => assumption)) | ((with_reducible show wpAny _ _ (getMethod (Value.ref _) (Str.ofString "get") _) _ _ _); refine' kdg_method (knd := PySem.strKind _ _) ?N ?m ?d ?_; (case N => k_asm); (case m => run_tac Mine.memT); (case d => assumption)))))
  k_with "@linesD@call builtin:dict.get" => ((k_here; k_dflt (refine' kdg_get1 (knd := PySem.strKind _ _) ?N ?m ?d ?lo (strKind_is _ _ _ _) none ?v ?_; (case N => k_asm); (case m => run_tac Mine.memT); (case d => assumption); (case lo => assumption); (case v => with_unfolding_all rfl)); (try simp only [Option.getD_none])))
  k_with "@linesD@subscriptTail" => ((k_here; (with_reducible show wpAny _ _ (subscriptTail _ _ (Value.ref _) (Value.str _ _)) _ _ _); k_dflt (refine' kda_item (knd := PySem.strKind _ _) ?N ?m ?d (strKind_is _ _ _ _) ?v ?_ ?s ?g; (case N => k_asm); (case m => run_tac Mine.memT); (case d => assumption); (case v => with_unfolding_all rfl); (case s => with_unfolding_all rfl); (case g => (intro _; with_unfolding_all rfl)))))
  k_with "@linesD@call builtin:list.sort" => ((k_here; (with_reducible show wpAny _ _ (call (Value.builtin "list.sort") [Value.ref _]) _ _ _); k_dflt (refine' Mine.sort_single ?F ?N ?U ?_; (case F => k_asm); (case N => k_asm); (case U => k_updF)); intro h' c' F' N'; (try dsimp only at N')))
  k_with "@linesD@call builtin:sorted" => ((k_here; (with_reducible show wpAny _ _ (call (Value.builtin "sorted") [Value.ref _]) _ _ _); k_dflt (refine' kdx_sortedN (knd := PySem.strKind _ _) (enc := PyData.str) (ps := [((fun t => Value.str (Str.ofString "k") t), Value.str _ _)]) ?hh ?F ?N ?v ?d ?o ?z ?k ?x ?_; (case hh => exact rfl); (case F => k_asm); (case N => k_asm); (case v => run_tac Mine.memT); (case d => run_tac Mine.memT); (case o => assumption); (case z => exact Nat.le_of_ble_eq_true rfl); (case k => exact fun _ _ h => Value.isStrOf_shape h); (case x => rfl)); intro lo' l0; (try k_lt l0)))
  k_with "@linesD@call ref" => ((k_here; k_dflt (refine' call_meth ?N0 ?q0 (Mine.qname_c ?cB ?cF ?cX ?cN ?cT ?cf ?ck ?cd ?cu ?c1 ?c2 ?c3 ?c4 ?c5 ?c6 ?c7 ?c8 ?c9 ?c10 ?c11 ?c12 ?_); (case N0 => k_asm); (case q0 => run_tac Mine.memT); (case cB => k_asm); (case cF => k_asm); (case cX => k_asm); (case cN => k_asm); (case cT => k_asm); (case cf => exact rfl); (case ck => exact rfl); (case cd => ((try dsimp only [Around.deeper, Around.in1]); first | exact Nat.lt_of_lt_of_le (by assumption) (by decide) | exact Nat.lt_of_lt_of_le (Nat.succ_lt_succ (by assumption)) (by decide) | exact Nat.lt_of_lt_of_le (Nat.succ_lt_succ (Nat.succ_lt_succ (by assumption))) (by decide) | omega)); (case cu => ((try dsimp only [Around.deeper, Around.in1]); first | exact Nat.lt_of_lt_of_le (by assumption) (by decide) | exact Nat.lt_of_lt_of_le (Nat.succ_lt_succ (by assumption)) (by decide) | exact Nat.lt_of_lt_of_le (Nat.succ_lt_succ (Nat.succ_lt_succ (by assumption))) (by decide) | omega)); (case c1 => run_tac Mine.memT); (case c2 => run_tac Mine.memT); (case c3 => run_tac Mine.memT); (case c4 => run_tac Mine.memT); (case c5 => run_tac Mine.memT); (case c9 => assumption); (case c6 => first | assumption | exact Mine.StackIs.mono (by assumption) (by intro p hp; repeat' (first | exact hp | exact List.mem_append_left _ hp | refine List.Mem.tail _ ?_))); (case c7 => first | assumption | omega | (simp only [Array.size_push]; omega)); (case c8 => exact Mine.CIn.use (by assumption) (by first | assumption | exact Mine.TabsLe.refl) (by intro p hp; repeat' (first | exact List.mem_append_left _ hp | refine List.Mem.tail _ ?_)) (by intro p hp; repeat' (first | exact List.mem_append_right _ hp | refine List.Mem.tail _ ?_))); (case c10 => first | assumption | exact Mine.fn_sub (by assumption) (by intro p hp; repeat' (first | exact hp | exact List.mem_append_left _ hp | refine List.Mem.tail _ ?_))); (case c11 => first | assumption | decide +kernel); (case c12 => first | assumption | omega | decide)); intro t' h' tk' a1' a2' a3' F' N' l1; (try dsimp only); (try k_unfold); (try dsimp only); (try k_lt l1)))
  k_with "@linesD@call builtin:list.append" => ((k_here; (with_reducible show wpAny _ _ (call (Value.builtin _) [Value.ref _, _]) _ _ _); k_dflt (refine' Mine.list_append_U ?F ?N ?U ?z ?_; (case F => k_asm); (case N => k_asm); (case U => k_updF); (case z => first | omega | (simp only [Array.size_push]; omega) | exact Nat.le_of_ble_eq_true rfl)); intro h' F' N'; (try dsimp only at N'); (try k_sweep); (try dsimp only)))
  k_with "@linesD@call ref" => ((k_here; k_dflt (refine' wpAny_call (Mine.WriteSpec.use ?cS ?cB ?cF ?cX ?cN ?cT ?cf ?ck ?cd ?cu ?cC ?c1 ?c2 ?c3 ?c4 ?c5 ?c6 ?_); (case cS => assumption); (case cB => k_asm); (case cF => k_asm); (case cX => k_asm); (case cN => k_asm); (case cT => k_asm); (case cf => exact rfl); (case ck => exact rfl); (case cd => ((try dsimp only [Around.deeper, Around.in1]); first | exact Nat.lt_of_lt_of_le (by assumption) (by decide) | exact Nat.lt_of_lt_of_le (Nat.succ_lt_succ (by assumption)) (by decide) | exact Nat.lt_of_lt_of_le (Nat.succ_lt_succ (Nat.succ_lt_succ (by assumption))) (by decide) | omega)); (case cu => ((try dsimp only [Around.deeper, Around.in1]); first | exact Nat.lt_of_lt_of_le (by assumption) (by decide) | exact Nat.lt_of_lt_of_le (Nat.succ_lt_succ (by assumption)) (by decide) | exact Nat.lt_of_lt_of_le (Nat.succ_lt_succ (Nat.succ_lt_succ (by assumption))) (by decide) | omega)); (case cC => exact Mine.CIn.use (by assumption) (by first | assumption | exact Mine.TabsLe.refl) (by intro p hp; repeat' (first | exact List.mem_append_left _ hp | refine List.Mem.tail _ ?_)) (by intro p hp; repeat' (first | exact List.mem_append_right _ hp | refine List.Mem.tail _ ?_))); (case c1 => k_updF); (case c2 => intro o'; k_updF); (case c3 => run_tac Mine.memT); (case c4 => first | assumption | omega | (simp only [Array.size_push]; omega)); (case c5 => first | assumption | omega | (simp only [Array.size_push]; omega)); (case c6 => first | decide +kernel | (simp only [Str.length_append, Mine.pl0, Mine.pl1, Mine.pl2, Mine.pl3, Mine.pl4, Mine.pl5, Mine.pl6, Mine.pl12]; omega))); intro t' h' tk' b' g' a1' a2' F' N' l1 bg' bl' gl'; (try dsimp only at N'); (try k_lt l1); (try k_sweep); (try dsimp only)))
  k_with "@linesD@call ref" => ((k_here; (with_reducible show wpAny _ _ (call (Value.ref 279) _) _ _ _); k_dflt (refine' wpAny_call (Mine.esc_c ?cB ?cF ?cX ?cN ?cT ?cf ?ck ?cd ?cu ?cs ?_); (case cB => k_asm); (case cF => k_asm); (case cX => k_asm); (case cN => k_asm); (case cT => k_asm); (case cf => exact rfl); (case ck => exact rfl); (case cd => ((try dsimp only [Around.deeper, Around.in1]); first | exact Nat.lt_of_lt_of_le (by assumption) (by decide) | exact Nat.lt_of_lt_of_le (Nat.succ_lt_succ (by assumption)) (by decide) | exact Nat.lt_of_lt_of_le (Nat.succ_lt_succ (Nat.succ_lt_succ (by assumption))) (by decide) | omega)); (case cu => ((try dsimp only [Around.deeper, Around.in1]); first | exact Nat.lt_of_lt_of_le (by assumption) (by decide) | exact Nat.lt_of_lt_of_le (Nat.succ_lt_succ (by assumption)) (by decide) | exact Nat.lt_of_lt_of_le (Nat.succ_lt_succ (Nat.succ_lt_succ (by assumption))) (by decide) | omega)); (case cs => assumption)); intro h' tk' tk2' F' N'; (try dsimp only); (try k_unfold); (try dsimp only)))
  k_with "@linesD@call builtin:str.join" => ((k_here; (with_reducible show wpAny _ _ (call (Value.builtin "str.join") [Value.str _ _, Value.ref _]) _ _ _); k_dflt (refine' Mine.join_one ?N ?m ?z ?_; (case N => k_asm); (case m => run_tac Mine.memT); (case z => (simp only [Str.length_append, Mine.pl0, Mine.pl1, Mine.pl2, Mine.pl3, Mine.pl4, Mine.pl5, Mine.pl6, Mine.pl12]; omega))); intro t' k'))
  k_with "@linesD@truthy ref" => ((k_here; k_dflt (refine' Mine.truthy_L ?N ?m ?z ?_; (case N => k_asm); (case m => run_tac Mine.memT); (case z => exact Nat.le_of_ble_eq_true rfl)); (try simp only [Array.push, List.isEmpty_cons, List.isEmpty_nil, Bool.not_false, Bool.not_true])))
  k_with "@linesD@subscriptTail" => ((k_here; (with_reducible show wpAny _ _ (subscriptTail _ _ (Value.ref _) (Value.int 0 _)) _ _ _); k_dflt (refine' Mine.tup_first ?t ?_; (case t => exact News.isTup (by k_asm) (by run_tac Mine.memT)))))
  k_with "@linesD@truthy ref" => ((k_here; k_dflt (refine' Mine.truthy_one ?N ?m ?_; (case N => k_asm); (case m => run_tac Mine.memT))))
  trivial
theorem Mine.row_linesE : True := by
  k_with "@linesE@SrcLP" => ((k_here; k_dflt (refine' Mine.SrcLP_one ?hh ?F ?N ?a ?t ?_; (case hh => exact rfl); (case F => k_asm); (case N => k_asm); (case a => run_tac Mine.memT); (case t => run_tac Mine.memT)); intro I' C' D' oI' oC' oD' m' h' tk' E' hC' hx' hy' F' N' off' ne'))
  k_with "@linesE@CTurn" => ((k_here; k_dflt (refine' Mine.CTurn.fin_str ?F ?N ?_; (case F => k_asm); (case N => k_asm)); intro t' D' h' tk' F' N' off'; (try simp only [PyProof.Rows.LCg.Off1, and_true] at off'); (try dsimp only)))
  k_with "@linesE@subscriptTail" => ((k_here; (with_reducible show wpAny _ _ (subscriptTail _ _ (Value.ref _) (Value.int (-1) _)) _ _ _); k_dflt (refine' Mine.last_push ?l ?_; (case l => exact News.isList (by k_asm) (by run_tac Mine.memT)))))
  k_with "@linesE@eval ListComp" => ((k_here; lcp_look; k_dflt (refine PyProof.Rows.LCp.ListComp_P (cl := []) (F₀ := by k_asm) ?hclos (by decide) (by rfl) (by decide) (by rfl) (by rfl) (by decide) ?_; (case hclos => exact Mine.closure_none (by decide)))))
  trivial
theorem Mine.use_M65 : True := by
  w_top off
  run_tac Mine.use ["linesP", "lines", "clines", "clines2", "lines3", "lines4", "lines5", "lines6", "lines7", "lines8", "lines9", "lines10", "lines11", "linesQ", "linesD", "linesE", "linesZZ"]
  trivial
namespace Mine
theorem start2_c {w : World} {A₀ : Around} {base h₀ : Heap} {outer : List Env} {env : Env} {L : Addr} {m : Str → Option Value} {s : Shared} {lo me} {mg mb} {R : Result → Shared → Prop} {d u : Nat} {gd : Option (List Code)}
 {x dx wf dl es ds ns pm pr itf l4 tp at_ nn : Addr} {rs rd : Bool} {ti tt tp1 tp2 t1 t2 ts : Tok} {nd n4 nn2 np npx na nnn ndl nat : Nat} {wt : WT} {tag sg : Str} {E T C : List (Addr × Obj)} {dsi nsi psi items hitems : Array Value} {a dxS hdl : Addr} {nh : Nat} {oat : Obj} {tis : Tok} {ivs : Value}
 (B : Below A₀ base outer h₀) (F : Fr h₀ L s.heap m) (X : (Mine.hd.heap_39 w.params).In h₀) (N : News h₀ L s.heap ((x, instObj 261 dx) :: (dx, wrD w wt wf dl es ds ns pm pr itf rs rd 0 ti) :: (pr, W.listOf (psi.push (.bool false)) np) :: (ns, W.listOf nsi nn2) :: (a, accO dxS items na) :: (hdl, W.listOf hitems nh) :: (at_, oat) :: (E ++ T))) (T0 : Top topProg lo me mg mb h₀) (hf : env.frame = some L) (hke : env.scope.kind = .function) (hd : d < 350) (hu : u < 300)
 (ho : @LT.lt Nat _ dx x ∧ @LT.lt Nat _ x ns ∧ @LT.lt Nat _ ns pr ∧ @LT.lt Nat _ hdl dx ∧ @LT.lt Nat _ a hdl ∧ @LT.lt Nat _ pr at_)
 (hat : oat.IsDictOf (PySem.strKind Challenge.rw_if0017_01.row.prog w) [(Str.ofString "k", Value.str (dbl sg) ts)]) (hsg : sg ∈ signs) (hsx : (dxS, iniD w tis ivs) ∈ E) (hzi : items.size ≤ 80) (hzh : hitems.size ≤ 80)
 (e0 : ∀ p ∈ E, p.1 ≠ x) (e1 : ∀ p ∈ E, p.1 ≠ dx) (e2 : ∀ p ∈ E, p.1 ≠ pr) (e3 : ∀ p ∈ E, p.1 ≠ ns) (e4 : ∀ p ∈ E, p.1 ≠ a) (e5 : ∀ p ∈ E, p.1 ≠ hdl)
 (hE : ∀ p ∈ E, isTabE p.2 = false) (hT : Tabs T)
 (hdl0 : (dl, W.listOf #[] ndl) ∈ E) (hds : (ds, W.listOf dsi nd) ∈ E) (h4 : (l4, W.listOf #[.ref tp] n4) ∈ E) (htp : (tp, xmlTup tp1 tp2) ∈ E) (hst : StackIs E dsi l4) (hz : dsi.size ≤ 50) (hz2 : nsi.size ≤ 50) (hz3 : psi.size ≤ 50) (hC : CIn C E T) (hit : IterSpec w itf l4 tp C) (hif : ∃ fo fd, (itf, fo) ∈ E ∧ fo.data = .func fd) (hws : WriteSpec w wf a dxS hdl C) (hwf : ∃ fo fd, (wf, fo) ∈ E ∧ fo.data = .func fd)
 (hsm : (at_ == sysModules) = false) (htg : (Txt.slice tag none (some 1) == Str.ofString "{") = false) (htl : tag.length ≤ 1) (hnn : (nn, W.listOf #[] nnn) ∈ E)
 (hfin : ∀ h' tk' dr E' T' t1 t2 t3 e1, Fr h₀ L h' m → News h₀ L h' ((x, instObj 261 dx) :: (dx, wrD w wt wf dl es ds ns pm pr itf true rd 0 ti) :: (pr, W.listOf ((psi.push (.bool false)).push (.bool false)) (np + 1)) :: (ns, W.listOf (nsi.push (.ref e1)) (nn2 + 1)) :: (a, accO dxS (((items.push (.ref t1)).push (.ref t2)).push (.ref t3)) (na + 1 + 1 + 1)) :: (hdl, W.listOf (((hitems.push .none).push .none).push .none) (nh + 1 + 1 + 1)) :: (E' ++ T')) →
   (∀ p ∈ E, p ∈ E') → Off6 E' x dx pr ns a hdl → (∀ p ∈ E', isTabE p.2 = false) → Tabs T' → TabsLe T T' → Piece E' t1 (Str.ofString "<" ++ Str.ofString "a") → Piece E' t2 (Str.empty ++ Str.ofString " " ++ Str.ofString "k" ++ Str.ofString "=\"" ++ dbl (markF sg) ++ Str.ofString "\"") → Piece E' t3 (Str.ofString ">") → (e1, W.listOf #[] 0) ∈ E' → R (.ok (.ret .none)) (StD s h' s.gens tk' dr))
 :
 codeAny (model Challenge.rw_if0017_01.row.prog w) (Around.mk none d (some (env :: outer)) gd u) (.call (.ref 237) ⟨[.ref x, .str (Str.ofString "a") tt, .ref at_, .ref nn], []⟩) R s := by
  refine @Mine.sqz _ ?zmain ?zfin
  case zmain =>
    obtain ⟨o1, o2, o3, o4, o5, o6⟩ := ho
    have hml := mark_len sg hsg
    revert X; k_fill; intro X
    refine' code_defC ?k1 ?k2 ?k3 ?k4 ?k5 ?kA ?kF ?kK ?k6 ?k7 ?k8 ?k9 ?kB ?kD ?_ ?c2 ?c3 ?c4
    case kA => exact rfl
    case kF => assumption
    case kK => assumption
    case k1 => assumption
    case k2 => assumption
    case k3 => assumption
    case k4 => assumption
    case k5 => assumption
    case k6 => k_is
    case k7 => k_is
    case k8 => k_room
    case k9 => first | exact BindsTo.of_eq rfl | exact binds_K (by k_in) rfl (by k_is) rfl rfl rfl | (refine' Mine.Run.binds ?bR; (case bR => (repeat' (first | exact Mine.Run.done rfl | exact Mine.Run.ns (by k_in) rfl (by k_is) | exact Mine.Run.seq (by k_in) rfl (by k_is) rfl | refine' Mine.Run.andThen rfl ?_ ?_ | fail))))
    case kB => exact rfl
    case kD => decide +kernel
    case c2 => exact rfl
    case c3 => exact rfl
    case c4 => exact rfl
    intro g' L' h' tk' cells' FG' F' N' Y' B' X' T' l1
    have l2 : AllLt (L' + 1) (E ++ T) := allLt_of fun p hp => Nat.lt_succ_of_lt (l1 p (.tail _ (.tail _ (.tail _ (.tail _ (.tail _ (.tail _ (.tail _ hp))))))))
    have l3 : AllLt (L' + 1 + 1) (E ++ T) := allLt_of fun p hp => Nat.lt_succ_of_lt (Nat.lt_succ_of_lt (l1 p (.tail _ (.tail _ (.tail _ (.tail _ (.tail _ (.tail _ (.tail _ hp)))))))))
    k_lt l1
    k_cells Y'
    rename_i co3 co2 cd1 cd2
    replace cd1 : co3.data = .cell none := cd1
    replace cd2 : co2.data = .cell (some (.ref x)) := cd2
    (try simp only [List.cons_append, List.nil_append] at N')
    obtain ⟨m0, F'⟩ := Mine.fr_map4 F' (k1 := Str.ofString "attrs") (v1 := .ref at_) (k2 := Str.ofString "tag") (v2 := .str (Str.ofString "a") tt) (k3 := Str.ofString "new_namespaces") (v3 := .ref nn) (k4 := Str.ofString "qname_text") (v4 := .none) (by kernel_rfl) (by kernel_rfl) (by kernel_rfl) (by kernel_rfl)
    (try dsimp only)
    k_steps
    rename_i sD sn sh stk sdr kF kN kl
    refine Mine.DSrc.two rfl kF kN (.head _) (by decide) ?t1 ?t2 ?done
    case t1 =>
      refine QTurn.open ?_
      intro I C D oI oC oD m₂ h tk E' hC hx F2 N2 off ne
      k_steps
      rename_i zF zN zl
      exact DTurn.fin zF zN zl off
    case t2 =>
      intro ta u1 u2 u3 hta
      replace hta := allLt_of hta
      simp only [AllLt, and_true] at hta
      refine QTurn.open ?_
      intro I C D oI oC oD m₂ h tk E' hC hx F2 N2 off ne
      k_steps
      rename_i zF zN zl
      exact DTurn.fin zF zN zl off
    case done =>
      intro ta u1 u2 u3 tb b1 b2 b3 D oD h tk hta htb hD F2 N2 off
      rename_i tk2 aS h9 l13 j h8 h7 tk1' t1' oS hoS h6 aR h5' oR loR hsR fsR hiR fiR l12 h4' tk1 tk0 h3 aQ h2' l11 h1' oP F1 N1 dP aF c' oc ct h0' tk0' Tn F0 N0 hTn hleT hci l10
      replace hta := allLt_of hta
      replace htb := allLt_of htb
      replace off := allNe_of off
      simp only [AllLt, and_true] at hta htb
      simp only [AllNe, and_true] at off
      have key : ∃ E2, ((D, oD) ∈ E2 ∧ (tb, qTup (Str.ofString "k") b1 b2 b3) ∈ E2 ∧ (ta, qTup (Str.ofString "a") u1 u2 u3) ∈ E2 ∧ (L' + 1, co2) ∈ E2 ∧ (at_, oat) ∈ E2 ∧ ∀ p ∈ E, p ∈ E2) ∧
          ((∀ p ∈ E2, p.1 ≠ x) ∧ (∀ p ∈ E2, p.1 ≠ dx) ∧ (∀ p ∈ E2, p.1 ≠ pr) ∧ (∀ p ∈ E2, p.1 ≠ ns) ∧ (∀ p ∈ E2, p.1 ≠ a) ∧ (∀ p ∈ E2, p.1 ≠ hdl) ∧ (∀ p ∈ E2, isTabE p.2 = false)) ∧
          News g' L' h ((x, instObj 261 dx) :: (dx, wrD w wt wf dl es ds ns pm pr itf rs rd 0 ti) :: (pr, W.listOf (psi.push (Value.bool false)) np) :: (ns, W.listOf nsi nn2) :: (a, accO dxS items na) :: (hdl, W.listOf hitems nh) :: (E2 ++ Tn)) := by
        refine ⟨(D, oD) :: (tb, qTup (Str.ofString "k") b1 b2 b3) :: (ta, qTup (Str.ofString "a") u1 u2 u3) :: (L' + 1, co2) :: (at_, oat) :: E, ⟨.head _, .tail _ (.head _), .tail _ (.tail _ (.head _)), .tail _ (.tail _ (.tail _ (.head _))), .tail _ (.tail _ (.tail _ (.tail _ (.head _)))), fun p hp => .tail _ (.tail _ (.tail _ (.tail _ (.tail _ hp))))⟩, ⟨?_, ?_, ?_, ?_, ?_, ?_, ?_⟩, ?_⟩
        · exact List.forall_mem_cons.mpr ⟨by k_ne, List.forall_mem_cons.mpr ⟨by k_ne, List.forall_mem_cons.mpr ⟨by k_ne, List.forall_mem_cons.mpr ⟨by k_ne, List.forall_mem_cons.mpr ⟨by k_ne, e0⟩⟩⟩⟩⟩
        · exact List.forall_mem_cons.mpr ⟨by k_ne, List.forall_mem_cons.mpr ⟨by k_ne, List.forall_mem_cons.mpr ⟨by k_ne, List.forall_mem_cons.mpr ⟨by k_ne, List.forall_mem_cons.mpr ⟨by k_ne, e1⟩⟩⟩⟩⟩
        · exact List.forall_mem_cons.mpr ⟨by k_ne, List.forall_mem_cons.mpr ⟨by k_ne, List.forall_mem_cons.mpr ⟨by k_ne, List.forall_mem_cons.mpr ⟨by k_ne, List.forall_mem_cons.mpr ⟨by k_ne, e2⟩⟩⟩⟩⟩
        · exact List.forall_mem_cons.mpr ⟨by k_ne, List.forall_mem_cons.mpr ⟨by k_ne, List.forall_mem_cons.mpr ⟨by k_ne, List.forall_mem_cons.mpr ⟨by k_ne, List.forall_mem_cons.mpr ⟨by k_ne, e3⟩⟩⟩⟩⟩
        · exact List.forall_mem_cons.mpr ⟨by k_ne, List.forall_mem_cons.mpr ⟨by k_ne, List.forall_mem_cons.mpr ⟨by k_ne, List.forall_mem_cons.mpr ⟨by k_ne, List.forall_mem_cons.mpr ⟨by k_ne, e4⟩⟩⟩⟩⟩
        · exact List.forall_mem_cons.mpr ⟨by k_ne, List.forall_mem_cons.mpr ⟨by k_ne, List.forall_mem_cons.mpr ⟨by k_ne, List.forall_mem_cons.mpr ⟨by k_ne, List.forall_mem_cons.mpr ⟨by k_ne, e5⟩⟩⟩⟩⟩
        · exact List.forall_mem_cons.mpr ⟨isTabE_dct hD, List.forall_mem_cons.mpr ⟨rfl, List.forall_mem_cons.mpr ⟨rfl, List.forall_mem_cons.mpr ⟨isTabE_cell cd2, List.forall_mem_cons.mpr ⟨isTabE_dct hat, hE⟩⟩⟩⟩⟩
        · refine news_sub N2 ?_
          repeat (apply Mine.subC; first | run_tac Mine.memT | focus (repeat' (first | exact List.Mem.head _ | refine List.Mem.tail _ ?_)))
          first | exact Mine.subD 0 rfl | exact Mine.subD 1 rfl | exact Mine.subD 2 rfl | exact Mine.subD 3 rfl | exact Mine.subD 4 rfl | exact Mine.subD 5 rfl | exact Mine.subD 6 rfl | exact Mine.subD 7 rfl | exact Mine.subD 8 rfl | exact Mine.subD 9 rfl | exact Mine.subD 10 rfl | exact Mine.subD 11 rfl | exact Mine.subD 12 rfl | exact Mine.subD 13 rfl | exact Mine.subD 14 rfl | exact Mine.subD 15 rfl | exact Mine.subD 16 rfl | exact Mine.subD 17 rfl | exact Mine.subD 18 rfl | exact Mine.subD 19 rfl | exact Mine.subD 20 rfl | exact Mine.subD 21 rfl | exact Mine.subD 22 rfl | exact Mine.subD 23 rfl
      obtain ⟨E2, ⟨m1, m2, m3, m4, m5, hsub⟩, ⟨w0, w1, w2, w3, w4, w5, w6⟩, N3⟩ := key
      obtain ⟨m1', F2⟩ := Mine.fr_map6 F2 (k1 := Str.ofString "parsed_qnames") (v1 := .ref D) (k2 := Str.ofString "attrs") (v2 := .ref at_) (k3 := Str.ofString "tag") (v3 := .str (Str.ofString "a") tt) (k4 := Str.ofString "new_namespaces") (v4 := .ref nn) (k5 := Str.ofString "qattrs") (v5 := .none) (k6 := Str.ofString "qname_text") (v6 := .none) rfl rfl rfl rfl rfl rfl
      have hC2 := (hC.le hleT).up hsub
      have hwf2 := fn_sub hwf hsub
      have hsx2 := hsub _ hsx
      have hnn2 := hsub _ hnn
      clear N2 N0 N1 F0 F1 hta htb off l13 l12 l11 l10 l1 l2 l3 hci hoS hsR fsR hiR fiR loR dP cd1 hdl0 hds h4 htp hst hnn hit hif hC hwf hsx e0 e1 e2 e3 e4 e5 hE hT
      dsimp only
      k_steps
      rename_i g1 g2 lA g3 ll1 g4 g5 g6 vA g7 ll2 loA ll0 aA tA bb1 bb2 bb3 cA g8 g9 ll9 g10 cc g11 g12 itA EA d9 d8 k8 k7 k6 k5 k4 k3 k2 kk dA k1 ll3 hh oF oN
      refine Mine.OneEnd.intro1 oF oN (.tail _ (.head _)) ?d ?_
      case d =>
        refine List.forall_mem_cons.mpr ⟨by k_ne, List.forall_mem_cons.mpr ⟨by k_ne, List.forall_mem_cons.mpr ⟨by k_ne, List.forall_mem_cons.mpr ⟨by k_ne, List.forall_mem_cons.mpr ⟨by k_ne, ?_⟩⟩⟩⟩⟩
        exact Mine.ne_sub d9 (fun p hp => .tail _ (.tail _ (.tail _ (.tail _ hp))))
      intro h5 tk5 F5 N5
      have key2 : ∃ E3, ((dA, tupO [.str (Str.ofString "k") b2, .str (dbl sg) ts]) ∈ E3 ∧ (lA, W.listOf #[.ref dA] 1) ∈ E3 ∧ ∀ p ∈ E2, p ∈ E3) ∧
          ((∀ p ∈ E3, p.1 ≠ x) ∧ (∀ p ∈ E3, p.1 ≠ dx) ∧ (∀ p ∈ E3, p.1 ≠ pr) ∧ (∀ p ∈ E3, p.1 ≠ ns) ∧ (∀ p ∈ E3, p.1 ≠ a) ∧ (∀ p ∈ E3, p.1 ≠ hdl) ∧ (∀ p ∈ E3, isTabE p.2 = false)) ∧
          News g' L' h5 ((x, instObj 261 dx) :: (dx, wrD w wt wf dl es ds ns pm pr itf rs rd 0 ti) :: (pr, W.listOf (psi.push (Value.bool false)) np) :: (ns, W.listOf nsi nn2) :: (a, accO dxS items na) :: (hdl, W.listOf hitems nh) :: (E3 ++ Tn)) := by
        refine ⟨(dA, tupO [.str (Str.ofString "k") b2, .str (dbl sg) ts]) :: (lA, W.listOf #[.ref dA] 1) :: E2, ⟨.head _, .tail _ (.head _), fun p hp => .tail _ (.tail _ hp)⟩, ⟨?_, ?_, ?_, ?_, ?_, ?_, ?_⟩, ?_⟩
        · exact List.forall_mem_cons.mpr ⟨by k_ne, List.forall_mem_cons.mpr ⟨by k_ne, w0⟩⟩
        · exact List.forall_mem_cons.mpr ⟨by k_ne, List.forall_mem_cons.mpr ⟨by k_ne, w1⟩⟩
        · exact List.forall_mem_cons.mpr ⟨by k_ne, List.forall_mem_cons.mpr ⟨by k_ne, w2⟩⟩
        · exact List.forall_mem_cons.mpr ⟨by k_ne, List.forall_mem_cons.mpr ⟨by k_ne, w3⟩⟩
        · exact List.forall_mem_cons.mpr ⟨by k_ne, List.forall_mem_cons.mpr ⟨by k_ne, w4⟩⟩
        · exact List.forall_mem_cons.mpr ⟨by k_ne, List.forall_mem_cons.mpr ⟨by k_ne, w5⟩⟩
        · exact List.forall_mem_cons.mpr ⟨rfl, List.forall_mem_cons.mpr ⟨rfl, w6⟩⟩
        · intro p hp
          refine N5 p ?_
          rcases List.mem_cons.mp hp with rfl | hp
          · exact .tail _ (.tail _ (.tail _ (.tail _ (.tail _ (.head _)))))
          rcases List.mem_cons.mp hp with rfl | hp
          · exact .tail _ (.tail _ (.tail _ (.tail _ (.tail _ (.tail _ (.head _))))))
          rcases List.mem_cons.mp hp with rfl | hp
          · exact .tail _ (.tail _ (.tail _ (.tail _ (.tail _ (.tail _ (.tail _ (.head _)))))))
          rcases List.mem_cons.mp hp with rfl | hp
          · exact .tail _ (.tail _ (.tail _ (.tail _ (.tail _ (.tail _ (.tail _ (.tail _ (.head _))))))))
          rcases List.mem_cons.mp hp with rfl | hp
          · exact .tail _ (.tail _ (.tail _ (.tail _ (.tail _ (.tail _ (.tail _ (.tail _ (.tail _ (.head _)))))))))
          rcases List.mem_cons.mp hp with rfl | hp
          · exact .tail _ (.tail _ (.tail _ (.tail _ (.tail _ (.tail _ (.tail _ (.tail _ (.tail _ (.tail _ (.head _))))))))))
          rcases List.mem_append.mp hp with hp | hp
          · rcases List.mem_cons.mp hp with rfl | hp
            · exact .head _
            refine .tail _ (.tail _ (.tail _ (.tail _ ?_)))
            rcases List.mem_cons.mp hp with rfl | hp
            · exact .head _
            exact .tail _ (.tail _ (.tail _ (.tail _ (.tail _ (.tail _ (.tail _ (List.mem_append_left _ hp)))))))
          · exact .tail _ (.tail _ (.tail _ (.tail _ (.tail _ (.tail _ (.tail _ (.tail _ (.tail _ (.tail _ (.tail _ (List.mem_append_right _ hp)))))))))))
      obtain ⟨E3, ⟨r1, r2, hsub3⟩, ⟨v0, v1, v2, v3, v4, v5, v6⟩, N6⟩ := key2
      obtain ⟨m2', F5⟩ := Mine.fr_map5 F5 (k1 := Str.ofString "attr_list") (v1 := .ref lA) (k2 := Str.ofString "attrs") (v2 := .ref at_) (k3 := Str.ofString "tag") (v3 := .str (Str.ofString "a") tt) (k4 := Str.ofString "parsed_qnames") (v4 := .ref D) (k5 := Str.ofString "qname_text") (v5 := .none) rfl rfl rfl rfl rfl
      replace m1 := hsub3 _ m1
      replace m2 := hsub3 _ m2
      replace m3 := hsub3 _ m3
      replace m4 := hsub3 _ m4
      replace m5 := hsub3 _ m5
      replace hsub := fun p hp => hsub3 p (hsub p hp)
      replace hC2 := hC2.up hsub3
      replace hwf2 := fn_sub hwf2 hsub3
      replace hsx2 := hsub3 _ hsx2
      clear hsub3 hnn2 w0 w1 w2 w3 w4 w5 w6 N5 oF oN d9 d8 ll0 ll1 ll2 ll3 ll9 bb1 bb2 bb3
      dsimp only [Mine.St]
      k_steps
      rename_i tA1 hA tkA bA gA aA1 aA2 bgA blA glA lA1 tkA2 iA cA2 dA2 oiA ocA odA mA hA5 tkA4 EA' hCA hxA hyA offA neA tA5 tkA1 cEA hA6 tkA3 tkA2' tA4 tkA0 tS DS hS5 tkS2 offS tS2 kS tB hB tkB bB gB aB1 aB2 bgB blB glB lB tC hC' tkC bC gC aC1 aC2 bgC blC glC lC h2 lL h1 l1L h0 F0 N0 kF kN Tc kX
      refine hfin _ _ _ ((lL, W.listOf #[] 0) :: (tC, tupO [.str bC aC1, .str gC aC2]) :: (tB, tupO [.str bB aB1, .str gB aB2]) :: (tA1, tupO [.str bA aA1, .str gA aA2]) :: E3) Tn tA1 tB tC lL kF (news_sub kN ?sub) ?up ?off ?tab hTn hleT (Piece.intro (.tail _ (.tail _ (.tail _ (.head _)))) bgA blA glA) (Piece.intro (.tail _ (.tail _ (.head _))) bgB blB glB) (Piece.intro (.tail _ (.head _)) bgC blC glC) (.head _)
      case up => exact fun p hp => .tail _ (.tail _ (.tail _ (.tail _ (hsub p hp))))
      case off => exact ((((Off6.mk v0 v1 v2 v3 v4 v5).cons (by k_ne) (by k_ne) (by k_ne) (by k_ne) (by k_ne) (by k_ne)).cons (by k_ne) (by k_ne) (by k_ne) (by k_ne) (by k_ne) (by k_ne)).cons (by k_ne) (by k_ne) (by k_ne) (by k_ne) (by k_ne) (by k_ne)).cons (by k_ne) (by k_ne) (by k_ne) (by k_ne) (by k_ne) (by k_ne)
      case tab => exact List.forall_mem_cons.mpr ⟨rfl, List.forall_mem_cons.mpr ⟨rfl, List.forall_mem_cons.mpr ⟨rfl, List.forall_mem_cons.mpr ⟨rfl, v6⟩⟩⟩⟩
      case sub =>
        repeat (apply Mine.subC; first | run_tac Mine.memT | focus (repeat' (first | exact List.Mem.head _ | refine List.Mem.tail _ ?_)))
        first | exact Mine.subD 0 rfl | exact Mine.subD 1 rfl | exact Mine.subD 2 rfl | exact Mine.subD 3 rfl | exact Mine.subD 4 rfl | exact Mine.subD 5 rfl | exact Mine.subD 6 rfl | exact Mine.subD 7 rfl | exact Mine.subD 8 rfl | exact Mine.subD 9 rfl | exact Mine.subD 10 rfl | exact Mine.subD 11 rfl | exact Mine.subD 12 rfl | exact Mine.subD 13 rfl | exact Mine.subD 14 rfl | exact Mine.subD 15 rfl | exact Mine.subD 16 rfl | exact Mine.subD 17 rfl | exact Mine.subD 18 rfl | exact Mine.subD 19 rfl | exact Mine.subD 20 rfl | exact Mine.subD 21 rfl | exact Mine.subD 22 rfl | exact Mine.subD 23 rfl
  case zfin => run_tac Mine.sq
end Mine

theorem Mine.row_linesR : True := by
  k_with "@linesR@call builtin:sorted" => ((k_here; ksk_show; k_dflt (refine' Mine.sort_one ?B ?F ?X ?N ?T ?cf ?ck ?cd ?cu ?c1 ?c3 ?c4 ?c9 ?_; (case B => k_asm); (case F => k_asm); (case X => k_asm); (case N => k_asm); (case T => k_asm); (case cf => exact rfl); (case ck => exact rfl); (case cd => ((try dsimp only [Around.deeper, Around.in1]); first | exact Nat.lt_of_lt_of_le (by assumption) (by decide) | exact Nat.lt_of_lt_of_le (Nat.succ_lt_succ (by assumption)) (by decide) | exact Nat.lt_of_lt_of_le (Nat.succ_lt_succ (Nat.succ_lt_succ (by assumption))) (by decide) | omega)); (case cu => ((try dsimp only [Around.deeper, Around.in1]); first | exact Nat.lt_of_lt_of_le (by assumption) (by decide) | exact Nat.lt_of_lt_of_le (Nat.succ_lt_succ (by assumption)) (by decide) | exact Nat.lt_of_lt_of_le (Nat.succ_lt_succ (Nat.succ_lt_succ (by assumption))) (by decide) | omega)); (case c1 => run_tac Mine.memT); (case c3 => exact fun p hp => hp); (case c4 => (refine' Mine.split_lam ?hm ?hc ?hT ?hl; (case hc => assumption); (case hm => run_tac Mine.memT); (case hT => (intro p hp; repeat' (first | exact hp | exact List.mem_append_right _ hp | refine List.Mem.tail _ ?_))); (case hl => rfl))); (case c9 => decide +kernel)); intro D' n' h' tk' dr' F' N' l1; (try k_lt l1)))
  trivial
theorem Mine.use_M65r : True := by
  w_top off
  run_tac Mine.use ["linesP", "lines", "clines", "clines2", "lines3", "lines4", "lines5", "lines6", "lines7", "lines8", "lines9", "lines10", "lines11", "linesQ", "linesD", "linesE", "linesR", "linesZZ"]
  trivial
namespace Mine
theorem start1_c {w : World} {A₀ : Around} {base h₀ : Heap} {outer : List Env} {env : Env} {L : Addr} {m : Str → Option Value} {s : Shared} {lo me} {mg mb} {R : Result → Shared → Prop} {d u : Nat} {gd : Option (List Code)}
 {x dx wf dl es ds ns pm pr itf l4 tp at_ nn : Addr} {rs rd : Bool} {ti tt tp1 tp2 t1 t2 : Tok} {nd n4 nn2 np npx na nnn ndl nat : Nat} {wt : WT} {tag : Str} {E T C : List (Addr × Obj)} {dsi nsi psi items hitems : Array Value} {a dxS hdl : Addr} {nh : Nat} {oat : Obj} {tis : Tok} {ivs : Value}
 (B : Below A₀ base outer h₀) (F : Fr h₀ L s.heap m) (X : (Mine.hd.heap_39 w.params).In h₀) (N : News h₀ L s.heap ((x, instObj 261 dx) :: (dx, wrD w wt wf dl es ds ns pm pr itf rs rd 0 ti) :: (pr, W.listOf (psi.push (.bool false)) np) :: (ns, W.listOf nsi nn2) :: (a, accO dxS items na) :: (hdl, W.listOf hitems nh) :: (at_, oat) :: (E ++ T))) (T0 : Top topProg lo me mg mb h₀) (hf : env.frame = some L) (hke : env.scope.kind = .function) (hd : d < 350) (hu : u < 300)
 (ho : @LT.lt Nat _ dx x ∧ @LT.lt Nat _ x ns ∧ @LT.lt Nat _ ns pr ∧ @LT.lt Nat _ hdl dx ∧ @LT.lt Nat _ a hdl ∧ @LT.lt Nat _ pr at_)
 (hat : oat.IsDictOf (PySem.strKind Challenge.rw_if0017_01.row.prog w) []) (hsx : (dxS, iniD w tis ivs) ∈ E) (hzi : items.size ≤ 80) (hzh : hitems.size ≤ 80)
 (e0 : ∀ p ∈ E, p.1 ≠ x) (e1 : ∀ p ∈ E, p.1 ≠ dx) (e2 : ∀ p ∈ E, p.1 ≠ pr) (e3 : ∀ p ∈ E, p.1 ≠ ns) (e4 : ∀ p ∈ E, p.1 ≠ a) (e5 : ∀ p ∈ E, p.1 ≠ hdl)
 (hE : ∀ p ∈ E, isTabE p.2 = false) (hT : Tabs T)
 (hdl0 : (dl, W.listOf #[] ndl) ∈ E) (hds : (ds, W.listOf dsi nd) ∈ E) (h4 : (l4, W.listOf #[.ref tp] n4) ∈ E) (htp : (tp, xmlTup tp1 tp2) ∈ E) (hst : StackIs E dsi l4) (hz : dsi.size ≤ 50) (hz2 : nsi.size ≤ 50) (hz3 : psi.size ≤ 50) (hC : CIn C E T) (hit : IterSpec w itf l4 tp C) (hif : ∃ fo fd, (itf, fo) ∈ E ∧ fo.data = .func fd) (hws : WriteSpec w wf a dxS hdl C) (hwf : ∃ fo fd, (wf, fo) ∈ E ∧ fo.data = .func fd)
 (hsm : (at_ == sysModules) = false) (htg : (Txt.slice tag none (some 1) == Str.ofString "{") = false) (htl : tag.length ≤ 1) (hnn : (nn, W.listOf #[] nnn) ∈ E)
 (hfin : ∀ h' tk' dr E' T' t1 t2 e1, Fr h₀ L h' m → News h₀ L h' ((x, instObj 261 dx) :: (dx, wrD w wt wf dl es ds ns pm pr itf true rd 0 ti) :: (pr, W.listOf ((psi.push (.bool false)).push (.bool false)) (np + 1)) :: (ns, W.listOf (nsi.push (.ref e1)) (nn2 + 1)) :: (a, accO dxS ((items.push (.ref t1)).push (.ref t2)) (na + 1 + 1)) :: (hdl, W.listOf ((hitems.push .none).push .none) (nh + 1 + 1)) :: (E' ++ T')) →
   (∀ p ∈ E, p ∈ E') → Off6 E' x dx pr ns a hdl → (∀ p ∈ E', isTabE p.2 = false) → Tabs T' → TabsLe T T' → Piece E' t1 (Str.ofString "<" ++ Str.ofString "r") → Piece E' t2 (Str.ofString ">") → (e1, W.listOf #[] 0) ∈ E' → R (.ok (.ret .none)) (StD s h' s.gens tk' dr))
 :
 codeAny (model Challenge.rw_if0017_01.row.prog w) (Around.mk none d (some (env :: outer)) gd u) (.call (.ref 237) ⟨[.ref x, .str (Str.ofString "r") tt, .ref at_, .ref nn], []⟩) R s := by
  refine @Mine.sqz _ ?zmain ?zfin
  case zmain =>
    obtain ⟨o1, o2, o3, o4, o5, o6⟩ := ho
    revert X; k_fill; intro X
    refine' code_defC ?k1 ?k2 ?k3 ?k4 ?k5 ?kA ?kF ?kK ?k6 ?k7 ?k8 ?k9 ?kB ?kD ?_ ?c2 ?c3 ?c4
    case kA => exact rfl
    case kF => assumption
    case kK => assumption
    case k1 => assumption
    case k2 => assumption
    case k3 => assumption
    case k4 => assumption
    case k5 => assumption
    case k6 => k_is
    case k7 => k_is
    case k8 => k_room
    case k9 => first | exact BindsTo.of_eq rfl | exact binds_K (by k_in) rfl (by k_is) rfl rfl rfl | (refine' Mine.Run.binds ?bR; (case bR => (repeat' (first | exact Mine.Run.done rfl | exact Mine.Run.ns (by k_in) rfl (by k_is) | exact Mine.Run.seq (by k_in) rfl (by k_is) rfl | refine' Mine.Run.andThen rfl ?_ ?_ | fail))))
    case kB => exact rfl
    case kD => decide +kernel
    case c2 => exact rfl
    case c3 => exact rfl
    case c4 => exact rfl
    intro g' L' h' tk' cells' FG' F' N' Y' B' X' T' l1
    have l2 : AllLt (L' + 1) (E ++ T) := allLt_of fun p hp => Nat.lt_succ_of_lt (l1 p (.tail _ (.tail _ (.tail _ (.tail _ (.tail _ (.tail _ (.tail _ hp))))))))
    have l3 : AllLt (L' + 1 + 1) (E ++ T) := allLt_of fun p hp => Nat.lt_succ_of_lt (Nat.lt_succ_of_lt (l1 p (.tail _ (.tail _ (.tail _ (.tail _ (.tail _ (.tail _ (.tail _ hp)))))))))
    k_lt l1
    k_cells Y'
    rename_i co3 co2 cd1 cd2
    replace cd1 : co3.data = .cell none := cd1
    replace cd2 : co2.data = .cell (some (.ref x)) := cd2
    (try simp only [List.cons_append, List.nil_append] at N')
    obtain ⟨m0, F'⟩ := Mine.fr_map4 F' (k1 := Str.ofString "attrs") (v1 := .ref at_) (k2 := Str.ofString "tag") (v2 := .str (Str.ofString "r") tt) (k3 := Str.ofString "new_namespaces") (v3 := .ref nn) (k4 := Str.ofString "qname_text") (v4 := .none) (by kernel_rfl) (by kernel_rfl) (by kernel_rfl) (by kernel_rfl)
    (try dsimp only)
    k_steps
    rename_i sD sn sh stk sdr kF kN kl
    refine Mine.DSrc.one rfl kF kN (.head _) ?t1 ?done
    case t1 =>
      refine QTurn.open ?_
      intro I C D oI oC oD m₂ h tk E' hC hx F2 N2 off ne
      k_steps
      rename_i zF zN zl
      exact DTurn.fin zF zN zl off
    case done =>
      intro ta u1 u2 u3 D oD h tk hta hD F2 N2 off
      rename_i tk2 aS h9 l13 j h8 h7 tk1' h6 aR h5' oR loR hsR fsR hiR fiR l12 h4' tk1 tk0 h3 aQ h2' l11 h1' oP F1 N1 dP aF c' oc ct h0' tk0' Tn F0 N0 hTn hleT hci l10
      replace hta := allLt_of hta
      replace off := allNe_of off
      simp only [AllLt, and_true] at hta
      simp only [AllNe, and_true] at off
      have key : ∃ E2, ((D, oD) ∈ E2 ∧ (ta, qTup (Str.ofString "r") u1 u2 u3) ∈ E2 ∧ (L' + 1, co2) ∈ E2 ∧ (at_, oat) ∈ E2 ∧ ∀ p ∈ E, p ∈ E2) ∧
          ((∀ p ∈ E2, p.1 ≠ x) ∧ (∀ p ∈ E2, p.1 ≠ dx) ∧ (∀ p ∈ E2, p.1 ≠ pr) ∧ (∀ p ∈ E2, p.1 ≠ ns) ∧ (∀ p ∈ E2, p.1 ≠ a) ∧ (∀ p ∈ E2, p.1 ≠ hdl) ∧ (∀ p ∈ E2, isTabE p.2 = false)) ∧
          News g' L' h ((x, instObj 261 dx) :: (dx, wrD w wt wf dl es ds ns pm pr itf rs rd 0 ti) :: (pr, W.listOf (psi.push (Value.bool false)) np) :: (ns, W.listOf nsi nn2) :: (a, accO dxS items na) :: (hdl, W.listOf hitems nh) :: (E2 ++ Tn)) := by
        refine ⟨(D, oD) :: (ta, qTup (Str.ofString "r") u1 u2 u3) :: (L' + 1, co2) :: (at_, oat) :: E, ⟨.head _, .tail _ (.head _), .tail _ (.tail _ (.head _)), .tail _ (.tail _ (.tail _ (.head _))), fun p hp => .tail _ (.tail _ (.tail _ (.tail _ hp)))⟩, ⟨?_, ?_, ?_, ?_, ?_, ?_, ?_⟩, ?_⟩
        · exact List.forall_mem_cons.mpr ⟨by k_ne, List.forall_mem_cons.mpr ⟨by k_ne, List.forall_mem_cons.mpr ⟨by k_ne, List.forall_mem_cons.mpr ⟨by k_ne, e0⟩⟩⟩⟩
        · exact List.forall_mem_cons.mpr ⟨by k_ne, List.forall_mem_cons.mpr ⟨by k_ne, List.forall_mem_cons.mpr ⟨by k_ne, List.forall_mem_cons.mpr ⟨by k_ne, e1⟩⟩⟩⟩
        · exact List.forall_mem_cons.mpr ⟨by k_ne, List.forall_mem_cons.mpr ⟨by k_ne, List.forall_mem_cons.mpr ⟨by k_ne, List.forall_mem_cons.mpr ⟨by k_ne, e2⟩⟩⟩⟩
        · exact List.forall_mem_cons.mpr ⟨by k_ne, List.forall_mem_cons.mpr ⟨by k_ne, List.forall_mem_cons.mpr ⟨by k_ne, List.forall_mem_cons.mpr ⟨by k_ne, e3⟩⟩⟩⟩
        · exact List.forall_mem_cons.mpr ⟨by k_ne, List.forall_mem_cons.mpr ⟨by k_ne, List.forall_mem_cons.mpr ⟨by k_ne, List.forall_mem_cons.mpr ⟨by k_ne, e4⟩⟩⟩⟩
        · exact List.forall_mem_cons.mpr ⟨by k_ne, List.forall_mem_cons.mpr ⟨by k_ne, List.forall_mem_cons.mpr ⟨by k_ne, List.forall_mem_cons.mpr ⟨by k_ne, e5⟩⟩⟩⟩
        · exact List.forall_mem_cons.mpr ⟨isTabE_dct hD, List.forall_mem_cons.mpr ⟨rfl, List.forall_mem_cons.mpr ⟨isTabE_cell cd2, List.forall_mem_cons.mpr ⟨isTabE_dct hat, hE⟩⟩⟩⟩
        · refine news_sub N2 ?_
          repeat (apply Mine.subC; first | run_tac Mine.memT | focus (repeat' (first | exact List.Mem.head _ | refine List.Mem.tail _ ?_)))
          first | exact Mine.subD 0 rfl | exact Mine.subD 1 rfl | exact Mine.subD 2 rfl | exact Mine.subD 3 rfl | exact Mine.subD 4 rfl | exact Mine.subD 5 rfl | exact Mine.subD 6 rfl | exact Mine.subD 7 rfl | exact Mine.subD 8 rfl | exact Mine.subD 9 rfl | exact Mine.subD 10 rfl | exact Mine.subD 11 rfl | exact Mine.subD 12 rfl | exact Mine.subD 13 rfl | exact Mine.subD 14 rfl | exact Mine.subD 15 rfl | exact Mine.subD 16 rfl | exact Mine.subD 17 rfl | exact Mine.subD 18 rfl | exact Mine.subD 19 rfl | exact Mine.subD 20 rfl | exact Mine.subD 21 rfl | exact Mine.subD 22 rfl | exact Mine.subD 23 rfl
      obtain ⟨E2, ⟨m1, m3, m4, m5, hsub⟩, ⟨w0, w1, w2, w3, w4, w5, w6⟩, N3⟩ := key
      obtain ⟨m1', F2⟩ := Mine.fr_map6 F2 (k1 := Str.ofString "parsed_qnames") (v1 := .ref D) (k2 := Str.ofString "attrs") (v2 := .ref at_) (k3 := Str.ofString "tag") (v3 := .str (Str.ofString "r") tt) (k4 := Str.ofString "new_namespaces") (v4 := .ref nn) (k5 := Str.ofString "qattrs") (v5 := .none) (k6 := Str.ofString "qname_text") (v6 := .none) rfl rfl rfl rfl rfl rfl
      have hC2 := (hC.le hleT).up hsub
      have hwf2 := fn_sub hwf hsub
      have hsx2 := hsub _ hsx
      have hnn2 := hsub _ hnn
      clear N2 N0 N1 F0 F1 hta off l13 l12 l11 l10 l1 l2 l3 hci hsR fsR hiR fiR loR dP cd1 hdl0 hds h4 htp hst hnn hit hif hC hwf hsx e0 e1 e2 e3 e4 e5 hE hT
      dsimp only
      k_steps
      rename_i tA1 hA tkA bA gA aA1 aA2 bgA blA glA lA1 tkA2 tC hC' tkC bC gC aC1 aC2 bgC blC glC lC h2 lL h1 l1L h0 F0 N0 kF kN Tc kX
      refine hfin _ _ _ ((lL, W.listOf #[] 0) :: (tC, tupO [.str bC aC1, .str gC aC2]) :: (tA1, tupO [.str bA aA1, .str gA aA2]) :: E2) Tn tA1 tC lL kF (news_sub kN ?sub) ?up ?off ?tab hTn hleT (Piece.intro (.tail _ (.tail _ (.head _))) bgA blA glA) (Piece.intro (.tail _ (.head _)) bgC blC glC) (.head _)
      case up => exact fun p hp => .tail _ (.tail _ (.tail _ (hsub p hp)))
      case off => exact (((Off6.mk w0 w1 w2 w3 w4 w5).cons (by k_ne) (by k_ne) (by k_ne) (by k_ne) (by k_ne) (by k_ne)).cons (by k_ne) (by k_ne) (by k_ne) (by k_ne) (by k_ne) (by k_ne)).cons (by k_ne) (by k_ne) (by k_ne) (by k_ne) (by k_ne) (by k_ne)
      case tab => exact List.forall_mem_cons.mpr ⟨rfl, List.forall_mem_cons.mpr ⟨rfl, List.forall_mem_cons.mpr ⟨rfl, w6⟩⟩⟩
      case sub =>
        repeat (apply Mine.subC; first | run_tac Mine.memT | focus (repeat' (first | exact List.Mem.head _ | refine List.Mem.tail _ ?_)))
        first | exact Mine.subD 0 rfl | exact Mine.subD 1 rfl | exact Mine.subD 2 rfl | exact Mine.subD 3 rfl | exact Mine.subD 4 rfl | exact Mine.subD 5 rfl | exact Mine.subD 6 rfl | exact Mine.subD 7 rfl | exact Mine.subD 8 rfl | exact Mine.subD 9 rfl | exact Mine.subD 10 rfl | exact Mine.subD 11 rfl | exact Mine.subD 12 rfl | exact Mine.subD 13 rfl | exact Mine.subD 14 rfl | exact Mine.subD 15 rfl | exact Mine.subD 16 rfl | exact Mine.subD 17 rfl | exact Mine.subD 18 rfl | exact Mine.subD 19 rfl | exact Mine.subD 20 rfl | exact Mine.subD 21 rfl | exact Mine.subD 22 rfl | exact Mine.subD 23 rfl
  case zfin => run_tac Mine.sq
end Mine

theorem Mine.use_M65v : True := by
  w_top off
  run_tac Mine.use ["linesP", "linesZZ"]
  trivial
namespace Mine
noncomputable def AllNone (vs : Array Value) : Prop := ∀ v ∈ vs, v = .none
theorem AllNone.push {vs : Array Value} (h : AllNone vs) : AllNone (vs.push .none) := fun v hv => (Array.mem_push.mp hv).elim (h v) id
/-- the sheet: its pieces, joined, are the text -/
noncomputable def Sheet (E : List (Addr × Obj)) (items : Array Value) (txt : Str) (n : Nat) : Prop :=
  ∃ qs : List (Str × Str), AccIs E items qs ∧ qs.length = n ∧ (∀ q ∈ qs, q.1.length ≤ 100 ∧ q.2.length ≤ 100) ∧ Txt.join (Str.ofString "") (qs.map fun p => p.1 ++ p.2) = txt
theorem Sheet.push {E E' : List (Addr × Obj)} {items : Array Value} {txt y : Str} {n : Nat} {t : Addr} (h : Sheet E items txt n) (k : ∀ p ∈ E, p ∈ E') (hp : Piece E' t y) : Sheet E' (items.push (.ref t)) (txt ++ y) (n + 1) := by
  refine @Mine.sqz _ ?zmain ?zfin
  case zmain =>
    obtain ⟨qs, h1, h2, h3, h4⟩ := h
    obtain ⟨b, g, t1, t2, m, e, l1, l2⟩ := hp
    refine ⟨qs ++ [(b, g)], h1.pushX k m, by rw [List.length_append, h2]; rfl, fun q hq => ?_, by rw [join_snoc, h4, e]⟩
    rcases List.mem_append.mp hq with hq | hq
    · exact h3 q hq
    · rw [List.mem_singleton.mp hq]; exact ⟨l1, l2⟩
  case zfin => run_tac Mine.sq
theorem Sheet.mono {E E' : List (Addr × Obj)} {items : Array Value} {txt : Str} {n : Nat} (h : Sheet E items txt n) (k : ∀ p ∈ E, p ∈ E') : Sheet E' items txt n := let ⟨qs, h1, r⟩ := h; ⟨qs, h1.mono k, r⟩
theorem Sheet.size {E : List (Addr × Obj)} {items : Array Value} {txt : Str} {n : Nat} (h : Sheet E items txt n) : items.size = n := let ⟨_, h1, h2, _⟩ := h; h1.1.trans h2
theorem root_txt (t : Str) : t ++ (Str.ofString "<" ++ Str.ofString "r") ++ Str.ofString ">" = t ++ Str.ofString "<r>" := by
  rw [str_assoc]; rw [show (Str.ofString "<" ++ Str.ofString "r" ++ Str.ofString ">") = Str.ofString "<r>" by decide +kernel]
/-- what _start does for one tag: it writes k pieces that join to add -/
noncomputable def StartSpec (w : World) (tag : Str) (kvs : List (Str × Value)) (add : Str) (k : Nat) : Prop :=
  ∀ {A₀ : Around} {base h₀ : Heap} {outer : List Env} {env : Env} {L : Addr} {m : Str → Option Value} {s : Shared} {lo : List Str} {me : ExcName → Option Value} {mg mb : Str → Option Value} {R : Result → Shared → Prop} {d u : Nat} {gd : Option (List Code)}
  {x dx wf dl es ds ns pm pr itf l4 tp at_ nn : Addr} {rs rd : Bool} {ti tt tp1 tp2 : Tok} {nd n4 nn2 np na nnn ndl : Nat} {wt : WT} {E T C : List (Addr × Obj)} {dsi nsi psi items hitems : Array Value} {a dxS hdl : Addr} {nh : Nat} {oat : Obj} {tis : Tok} {ivs : Value},
  Below A₀ base outer h₀ → Fr h₀ L s.heap m → (Mine.hd.heap_39 w.params).In h₀ → News h₀ L s.heap ((x, instObj 261 dx) :: (dx, wrD w wt wf dl es ds ns pm pr itf rs rd 0 ti) :: (pr, W.listOf (psi.push (.bool false)) np) :: (ns, W.listOf nsi nn2) :: (a, accO dxS items na) :: (hdl, W.listOf hitems nh) :: (at_, oat) :: (E ++ T)) → Top topProg lo me mg mb h₀ → env.frame = some L → env.scope.kind = .function → d < 350 → u < 300 →
  (@LT.lt Nat _ dx x ∧ @LT.lt Nat _ x ns ∧ @LT.lt Nat _ ns pr ∧ @LT.lt Nat _ hdl dx ∧ @LT.lt Nat _ a hdl ∧ @LT.lt Nat _ pr at_) →
  oat.IsDictOf (PySem.strKind Challenge.rw_if0017_01.row.prog w) kvs → (dxS, iniD w tis ivs) ∈ E → items.size ≤ 80 → hitems.size ≤ 80 → Off6 E x dx pr ns a hdl → (∀ p ∈ E, isTabE p.2 = false) → Tabs T →
  (dl, W.listOf #[] ndl) ∈ E → (ds, W.listOf dsi nd) ∈ E → (l4, W.listOf #[.ref tp] n4) ∈ E → (tp, xmlTup tp1 tp2) ∈ E → StackIs E dsi l4 → dsi.size ≤ 50 → nsi.size ≤ 50 → psi.size ≤ 50 → CIn C E T → IterSpec w itf l4 tp C → (∃ fo fd, (itf, fo) ∈ E ∧ fo.data = .func fd) → WriteSpec w wf a dxS hdl C → (∃ fo fd, (wf, fo) ∈ E ∧ fo.data = .func fd) →
  (at_ == sysModules) = false → (nn, W.listOf #[] nnn) ∈ E →
  (∀ h' tk' dr E' T' items' hitems' na' nh' e1 nsc npc, Fr h₀ L h' m → News h₀ L h' ((x, instObj 261 dx) :: (dx, wrD w wt wf dl es ds ns pm pr itf true rd 0 ti) :: (pr, W.listOf ((psi.push (.bool false)).push (.bool false)) npc) :: (ns, W.listOf (nsi.push (.ref e1)) nsc) :: (a, accO dxS items' na') :: (hdl, W.listOf hitems' nh') :: (E' ++ T')) →
   (∀ p ∈ E, p ∈ E') → Off6 E' x dx pr ns a hdl → (∀ p ∈ E', isTabE p.2 = false) → Tabs T' → TabsLe T T' → (∀ txt n, Sheet E items txt n → Sheet E' items' (txt ++ add) (n + k)) → (AllNone hitems → AllNone hitems') → hitems'.size = hitems.size + k → (e1, W.listOf #[] 0) ∈ E' → R (.ok (.ret .none)) (StD s h' s.gens tk' dr)) →
  codeAny (model Challenge.rw_if0017_01.row.prog w) (Around.mk none d (some (env :: outer)) gd u) (.call (.ref 237) ⟨[.ref x, .str tag tt, .ref at_, .ref nn], []⟩) R s
end Mine

theorem Mine.use_M65w : True := by
  w_top off
  run_tac Mine.use ["linesP", "linesZZ"]
  trivial
namespace Mine
theorem start2_spec {w : World} {sg : Str} {ts : Tok} (hsg : sg ∈ signs) : StartSpec w (Str.ofString "a") [(Str.ofString "k", Value.str (dbl sg) ts)] (("<a k=\"" ++ dbl (markF sg)) ++ "\">") 3 := by
  refine @Mine.sqz _ ?zmain ?zfin
  case zmain =>
    intro A₀ base h₀ outer env L m s lo me mg mb R d u gd x dx wf dl es ds ns pm pr itf l4 tp at_ nn rs rd ti tt tp1 tp2 nd n4 nn2 np na nnn ndl wt E T C dsi nsi psi items hitems a dxS hdl nh oat tis ivs B F X N T0 hf hke hd hu ho hat hsx hzi hzh hoff hE hT hdl0 hds h4 htp hst hz hz2 hz3 hC hit hif hws hwf hsm hnn hfin
    refine start2_c (npx := 0) (nat := 0) (t1 := 0) (t2 := 0) (tag := Str.ofString "a") B F X N T0 hf hke hd hu ho hat hsg hsx hzi hzh hoff.x hoff.dx hoff.pr hoff.ns hoff.a hoff.hdl hE hT hdl0 hds h4 htp hst hz hz2 hz3 hC hit hif hws hwf hsm (by decide +kernel) (by decide +kernel) hnn ?_
    intro h' tk' dr E' T' t1 t2 t3 e1 F' N' hs o6 hi hT' hle p1 p2 p3 he
    refine hfin h' tk' dr E' T' _ _ _ _ e1 _ _ F' N' hs o6 hi hT' hle (fun txt n hsh => ?_) (fun hn => hn.push.push.push) (by simp only [Array.size_push]) he
    have h3 := ((hsh.push hs p1).push (fun _ h => h) p2).push (fun _ h => h) p3
    rw [up_txt] at h3
    exact h3
  case zfin => run_tac Mine.sq
theorem start1_spec {w : World} : StartSpec w (Str.ofString "r") [] (Str.ofString "<r>") 2 := by
  refine @Mine.sqz _ ?zmain ?zfin
  case zmain =>
    intro A₀ base h₀ outer env L m s lo me mg mb R d u gd x dx wf dl es ds ns pm pr itf l4 tp at_ nn rs rd ti tt tp1 tp2 nd n4 nn2 np na nnn ndl wt E T C dsi nsi psi items hitems a dxS hdl nh oat tis ivs B F X N T0 hf hke hd hu ho hat hsx hzi hzh hoff hE hT hdl0 hds h4 htp hst hz hz2 hz3 hC hit hif hws hwf hsm hnn hfin
    refine start1_c (npx := 0) (nat := 0) (t1 := 0) (t2 := 0) (tag := Str.ofString "r") B F X N T0 hf hke hd hu ho hat hsx hzi hzh hoff.x hoff.dx hoff.pr hoff.ns hoff.a hoff.hdl hE hT hdl0 hds h4 htp hst hz hz2 hz3 hC hit hif hws hwf hsm (by decide +kernel) (by decide +kernel) hnn ?_
    intro h' tk' dr E' T' t1 t2 e1 F' N' hs o6 hi hT' hle p1 p2 he
    refine hfin h' tk' dr E' T' _ _ _ _ e1 _ _ F' N' hs o6 hi hT' hle (fun txt n hsh => ?_) (fun hn => hn.push.push) (by simp only [Array.size_push]) he
    have h3 := (hsh.push hs p1).push (fun _ h => h) p2
    rw [root_txt] at h3
    exact h3
  case zfin => run_tac Mine.sq
end Mine

theorem Mine.row_linesV : True := by
  k_with "@linesV@call builtin:list.append" => ((k_here; (with_reducible show wpAny _ _ (call (Value.builtin _) [Value.ref _, _]) _ _ _); k_dflt (refine' Mine.list_append_U ?F ?N ?U ?z ?_; (case F => k_asm); (case N => k_asm); (case U => k_updF); (case z => first | omega | (simp only [Array.size_push]; omega) | exact Nat.le_of_ble_eq_true rfl)); intro h' F' N'; (try dsimp only at N'); (try k_sweep); (try dsimp only)))
  k_with "@linesV@truthy ref" => ((k_here; k_dflt (refine' Mine.truthy_L ?N ?m ?z ?_; (case N => k_asm); (case m => run_tac Mine.memT); (case z => exact Nat.le_of_ble_eq_true rfl)); (try simp only [Array.push, List.isEmpty_cons, List.isEmpty_nil, Bool.not_false, Bool.not_true])))
  k_with "@linesV@compareOp In str ref" => ((k_here; k_dflt (refine' Mine.set_in_mem ?N ?m ?d ?z ?_; (case N => k_asm); (case m => run_tac Mine.memT); (case d => assumption); (case z => first | decide | (unfold scanBound; decide))); (try (rename decide (_ = Str.ofString "b") = false => hb9; rw [hb9])); (try dsimp only)))
  k_with "@linesV@call ref" => ((k_here; (with_reducible show wpAny _ _ (call (Value.ref 237) _) _ _ _); refine Mine.stop_ ?_))
  trivial
theorem Mine.use_M65x : True := by
  w_top off
  run_tac Mine.use ["linesP", "lines", "clines", "clines2", "lines3", "lines4", "lines5", "lines6", "linesV", "linesZZ"]
  trivial
namespace Mine
theorem start_c {w : World} {tag : Str} {kvs : List (Str × Value)} {add : Str} {k : Nat} (hs : StartSpec w tag kvs add k) (htb : decide (tag = Str.ofString "b") = false) (hk3 : k ≤ 3)
  {A₀ : Around} {base h₀ : Heap} {outer : List Env} {env : Env} {L : Addr} {m : Str → Option Value} {s : Shared} {lo : List Str} {me : ExcName → Option Value} {mg mb : Str → Option Value} {R : Result → Shared → Prop} {d u : Nat} {gd : Option (List Code)}
  {x dx wf dl es ds ns pm pr itf l4 tp at_ : Addr} {rs rd : Bool} {ti tt tp1 tp2 : Tok} {nd n4 nn2 np na ndl : Nat} {wt : WT} {E T C : List (Addr × Obj)} {dsi nsi psi items hitems : Array Value} {a dxS hdl : Addr} {nh : Nat} {oat oes : Obj} {tis : Tok} {ivs : Value}
  (B : Below A₀ base outer h₀) (F : Fr h₀ L s.heap m) (X : (Mine.hd.heap_39 w.params).In h₀) (N : News h₀ L s.heap ((x, instObj 261 dx) :: (dx, wrD w wt wf dl es ds ns pm pr itf rs rd 0 ti) :: (pr, W.listOf (psi.push (.bool false)) np) :: (ns, W.listOf nsi nn2) :: (ds, W.listOf dsi nd) :: (a, accO dxS items na) :: (hdl, W.listOf hitems nh) :: (at_, oat) :: (E ++ T))) (T0 : Top topProg lo me mg mb h₀) (hf : env.frame = some L) (hke : env.scope.kind = .function) (hd : d < 330) (hu : u < 280)
  (ho : @LT.lt Nat _ dx x ∧ @LT.lt Nat _ x ds ∧ @LT.lt Nat _ ds ns ∧ @LT.lt Nat _ ns pr ∧ @LT.lt Nat _ hdl dx ∧ @LT.lt Nat _ a hdl ∧ @LT.lt Nat _ pr at_)
  (hat : oat.IsDictOf (PySem.strKind Challenge.rw_if0017_01.row.prog w) kvs) (hsx : (dxS, iniD w tis ivs) ∈ E) (hzi : items.size ≤ 80) (hzh : hitems.size ≤ 80) (hoff : Off6 E x dx pr ns a hdl) (hoffd : ∀ p ∈ E, p.1 ≠ ds) (hE : ∀ p ∈ E, isTabE p.2 = false) (hT : Tabs T)
  (hdl0 : (dl, W.listOf #[] ndl) ∈ E) (h4 : (l4, W.listOf #[.ref tp] n4) ∈ E) (htp : (tp, xmlTup tp1 tp2) ∈ E) (hst : StackIs E dsi l4) (hz : dsi.size ≤ 40) (hz2 : nsi.size ≤ 40) (hz3 : psi.size ≤ 40) (hC : CIn C E T) (hit : IterSpec w itf l4 tp C) (hif : ∃ fo fd, (itf, fo) ∈ E ∧ fo.data = .func fd) (hws : WriteSpec w wf a dxS hdl C) (hwf : ∃ fo fd, (wf, fo) ∈ E ∧ fo.data = .func fd)
  (hsm : (at_ == sysModules) = false) (hes : (es, oes) ∈ E) (hex : ExclB w oes)
  (hfin : ∀ h' tk' dr E' T' items' hitems' na' nh' e1 e2 nsc npc, Fr h₀ L h' m → News h₀ L h' ((x, instObj 261 dx) :: (dx, wrD w wt wf dl es ds ns pm pr itf true rd 0 ti) :: (pr, W.listOf ((psi.push (.bool false)).push (.bool false)) npc) :: (ns, W.listOf (nsi.push (.ref e1)) nsc) :: (ds, W.listOf (dsi.push (.ref e2)) (nd + 1)) :: (a, accO dxS items' na') :: (hdl, W.listOf hitems' nh') :: (E' ++ T')) →
   (∀ p ∈ E, p ∈ E') → Off6 E' x dx pr ns a hdl → (∀ p ∈ E', p.1 ≠ ds) → (∀ p ∈ E', isTabE p.2 = false) → Tabs T' → TabsLe T T' → (∀ txt n, Sheet E items txt n → Sheet E' items' (txt ++ add) (n + k)) → (AllNone hitems → AllNone hitems') → hitems'.size = hitems.size + k → StackIs E' (dsi.push (.ref e2)) l4 → R (.ok (.ret .none)) (StD s h' s.gens tk' dr))
  :
  codeAny (model Challenge.rw_if0017_01.row.prog w) (Around.mk none d (some (env :: outer)) gd u) (.call (.ref 231) ⟨[.ref x, .str tag tt, .ref at_], []⟩) R s := by
  refine @Mine.sqz _ ?zmain ?zfin
  case zmain =>
    obtain ⟨o1, o2, o3, o4, o5, o6, o7⟩ := ho
    obtain ⟨e0, e1, e2, e3, e4, e5⟩ := hoff
    revert X; k_fill; intro X
    k_data
    k_steps
    unfold Stop
    rename_i nn h2 l1 h1 tk1 h0 F0 N0 tk0
    have l2 := l1.2.2.2.2.2.2.2.2
    refine' wpAny_call (hs (E := (nn, W.listOf #[] 0) :: (ds, W.listOf (dsi.push (.ref nn)) (nd + 1)) :: E) (T := T) (C := C) (nd := nd + 1) (dsi := dsi.push (.ref nn)) (np := np) (nn2 := nn2) (na := na) (nh := nh) (rs := rs) (rd := rd) (ti := ti) (items := items) (hitems := hitems) (nsi := nsi) (psi := psi) (wt := wt) ?cB ?cF ?cX ?cN ?cT ?cf ?ck ?cd ?cu ⟨o1, by first | run_tac Mine.neT | omega, o4, o5, o6, o7⟩ hat (.tail _ (.tail _ hsx)) hzi hzh ?coff ?cE hT (.tail _ (.tail _ hdl0)) (.tail _ (.head _)) (.tail _ (.tail _ h4)) (.tail _ (.tail _ htp)) ?cst ?cz (Nat.le_trans hz2 (by decide)) (Nat.le_trans hz3 (by decide)) (hC.up fun p hp => .tail _ (.tail _ hp)) hit (fn_sub hif fun p hp => .tail _ (.tail _ hp)) hws (fn_sub hwf fun p hp => .tail _ (.tail _ hp)) hsm (.head _) ?_)
    case cB => k_asm
    case cF => k_asm
    case cX => k_asm
    case cT => k_asm
    case cf => exact rfl
    case ck => exact rfl
    case cd => (try dsimp only [Around.deeper, Around.in1]); first | exact Nat.lt_of_lt_of_le (by assumption) (by decide) | exact Nat.lt_of_lt_of_le (Nat.succ_lt_succ (by assumption)) (by decide) | exact Nat.lt_of_lt_of_le (Nat.succ_lt_succ (Nat.succ_lt_succ (by assumption))) (by decide) | omega
    case cu => (try dsimp only [Around.deeper, Around.in1]); first | exact Nat.lt_of_lt_of_le (by assumption) (by decide) | exact Nat.lt_of_lt_of_le (Nat.succ_lt_succ (by assumption)) (by decide) | exact Nat.lt_of_lt_of_le (Nat.succ_lt_succ (Nat.succ_lt_succ (by assumption))) (by decide) | omega
    case cN =>
      refine news_sub N0 fun p hp => ?_
      rcases List.mem_cons.mp hp with rfl | hp
      · repeat' (first | exact List.Mem.head _ | refine List.Mem.tail _ ?_)
      rcases List.mem_cons.mp hp with rfl | hp
      · repeat' (first | exact List.Mem.head _ | refine List.Mem.tail _ ?_)
      rcases List.mem_cons.mp hp with rfl | hp
      · repeat' (first | exact List.Mem.head _ | refine List.Mem.tail _ ?_)
      rcases List.mem_cons.mp hp with rfl | hp
      · repeat' (first | exact List.Mem.head _ | refine List.Mem.tail _ ?_)
      rcases List.mem_cons.mp hp with rfl | hp
      · repeat' (first | exact List.Mem.head _ | refine List.Mem.tail _ ?_)
      rcases List.mem_cons.mp hp with rfl | hp
      · repeat' (first | exact List.Mem.head _ | refine List.Mem.tail _ ?_)
      rcases List.mem_cons.mp hp with rfl | hp
      · repeat' (first | exact List.Mem.head _ | refine List.Mem.tail _ ?_)
      rcases List.mem_cons.mp hp with rfl | hp
      · repeat' (first | exact List.Mem.head _ | refine List.Mem.tail _ ?_)
      rcases List.mem_cons.mp hp with rfl | hp
      · repeat' (first | exact List.Mem.head _ | refine List.Mem.tail _ ?_)
      rcases List.mem_append.mp hp with hp | hp
      · exact .tail _ (.tail _ (.tail _ (.tail _ (.tail _ (.tail _ (.tail _ (.tail _ (.tail _ (List.mem_append_left _ hp)))))))))
      · exact .tail _ (.tail _ (.tail _ (.tail _ (.tail _ (.tail _ (.tail _ (.tail _ (.tail _ (List.mem_append_right _ hp)))))))))
    case coff => exact ((Off6.mk e0 e1 e2 e3 e4 e5).cons (by k_ne) (by k_ne) (by k_ne) (by k_ne) (by k_ne) (by k_ne)).cons (by k_ne) (by k_ne) (by k_ne) (by k_ne) (by k_ne) (by k_ne)
    case cE => exact List.forall_mem_cons.mpr ⟨rfl, List.forall_mem_cons.mpr ⟨rfl, hE⟩⟩
    case cst => exact (hst.mono fun p hp => .tail _ (.tail _ hp)).push (.head _)
    case cz => rw [Array.size_push]; omega
    intro h3 tk3 dr E' T' items' hitems' na' nh' ee nsc npc F3 N3 sub3 off3 tab3 hT3 hle3 sh3 no3 sz3 he3
    have key : ∃ E9, (∀ p ∈ E, p ∈ E9) ∧ Off6 E9 x dx pr ns a hdl ∧ (∀ p ∈ E9, p.1 ≠ ds) ∧ (∀ p ∈ E9, isTabE p.2 = false) ∧ (∀ txt n, Sheet E items txt n → Sheet E9 items' (txt ++ add) (n + k)) ∧ StackIs E9 (dsi.push (.ref nn)) l4 ∧ ∀ p ∈ (x, instObj 261 dx) :: (dx, wrD w wt wf dl es ds ns pm pr itf true rd 0 ti) :: (pr, W.listOf ((psi.push (.bool false)).push (.bool false)) npc) :: (ns, W.listOf (nsi.push (.ref ee)) nsc) :: (ds, W.listOf (dsi.push (.ref nn)) (nd + 1)) :: (a, accO dxS items' na') :: (hdl, W.listOf hitems' nh') :: (E9 ++ T'), p ∈ (x, instObj 261 dx) :: (dx, wrD w wt wf dl es ds ns pm pr itf true rd 0 ti) :: (pr, W.listOf ((psi.push (.bool false)).push (.bool false)) npc) :: (ns, W.listOf (nsi.push (.ref ee)) nsc) :: (a, accO dxS items' na') :: (hdl, W.listOf hitems' nh') :: (E' ++ T') := by
      have hmem : ∀ {p : Addr × Obj}, p ∈ E'.filter (fun p => p.1 != ds) → p ∈ E' := fun hp => (List.mem_filter.mp hp).1
      have hin : ∀ {p : Addr × Obj}, p ∈ E' → p.1 ≠ ds → p ∈ E'.filter (fun p => p.1 != ds) := fun hp hn => List.mem_filter.mpr ⟨hp, by simpa using hn⟩
      refine ⟨E'.filter (fun p => p.1 != ds), fun p hp => hin (sub3 p (.tail _ (.tail _ hp))) (hoffd p hp), ⟨fun p hp => off3.x p (hmem hp), fun p hp => off3.dx p (hmem hp), fun p hp => off3.pr p (hmem hp), fun p hp => off3.ns p (hmem hp), fun p hp => off3.a p (hmem hp), fun p hp => off3.hdl p (hmem hp)⟩, fun p hp => by simpa using (List.mem_filter.mp hp).2, fun p hp => tab3 p (hmem hp), ?_, ?_, ?_⟩
      · intro txt n hsh
        obtain ⟨qs, ⟨z1, z2⟩, r⟩ := sh3 txt n (hsh.mono fun p hp => .tail _ (.tail _ hp))
        refine ⟨qs, ⟨z1, fun i p e => ?_⟩, r⟩
        obtain ⟨t, tb, tg, y1, y2⟩ := z2 i p e
        refine ⟨t, tb, tg, y1, hin y2 fun q => ?_⟩
        have q2 : t = ds := q
        subst q2
        have := news_same N3 (.tail _ (.tail _ (.tail _ (.tail _ (.tail _ (.tail _ (List.mem_append_left _ y2))))))) (.tail _ (.tail _ (.tail _ (.tail _ (.tail _ (.tail _ (List.mem_append_left _ (sub3 _ (.tail _ (.head _)))))))))) 
        exact absurd (congrArg Obj.cls this) (by intro e; injection e with e; exact absurd e (by decide))
      · exact (hst.mono fun p hp => hin (sub3 p (.tail _ (.tail _ hp))) (hoffd p hp)).push (hin (sub3 _ (.head _)) (by k_ne))
      · intro p hp
        rcases List.mem_cons.mp hp with rfl | hp
        · repeat' (first | exact List.Mem.head _ | refine List.Mem.tail _ ?_)
        rcases List.mem_cons.mp hp with rfl | hp
        · repeat' (first | exact List.Mem.head _ | refine List.Mem.tail _ ?_)
        rcases List.mem_cons.mp hp with rfl | hp
        · repeat' (first | exact List.Mem.head _ | refine List.Mem.tail _ ?_)
        rcases List.mem_cons.mp hp with rfl | hp
        · repeat' (first | exact List.Mem.head _ | refine List.Mem.tail _ ?_)
        rcases List.mem_cons.mp hp with rfl | hp
        · exact .tail _ (.tail _ (.tail _ (.tail _ (.tail _ (.tail _ (List.mem_append_left _ (sub3 _ (.tail _ (.head _)))))))))
        rcases List.mem_cons.mp hp with rfl | hp
        · repeat' (first | exact List.Mem.head _ | refine List.Mem.tail _ ?_)
        rcases List.mem_cons.mp hp with rfl | hp
        · repeat' (first | exact List.Mem.head _ | refine List.Mem.tail _ ?_)
        rcases List.mem_append.mp hp with hp | hp
        · exact .tail _ (.tail _ (.tail _ (.tail _ (.tail _ (.tail _ (List.mem_append_left _ (hmem hp)))))))
        · exact .tail _ (.tail _ (.tail _ (.tail _ (.tail _ (.tail _ (List.mem_append_right _ hp))))))
    obtain ⟨E9, k1, k2, k3, k4, k5, k6, k7⟩ := key
    replace N3 := news_sub N3 k7
    clear N0 F0 k7 sh3 off3 tab3 he3 sub3
    (try dsimp only)
    k_steps
    rename_i kF kN Tc kX
    exact hfin _ _ dr E9 T' items' hitems' na' nh' ee nn _ _ kF kN k1 k2 k3 k4 hT3 hle3 k5 no3 sz3 k6
  case zfin => run_tac Mine.sq
end Mine

theorem Mine.use_M87 : True := by
  w_top off
  run_tac Mine.use ["linesP", "lines", "lines12", "clines", "linesZZ"]
  trivial
namespace Mine
theorem init0_c {w : World} {A₀ : Around} {base h₀ : Heap} {outer : List Env} {env : Env} {L : Addr} {m : Str → Option Value} {s : Shared} {lo me} {mg mb} {R : Result → Shared → Prop} {d u : Nat} {gd : Option (List Code)}
 {a dx : Addr} {rest : List (Addr × Obj)}
 (B : Below A₀ base outer h₀) (F : Fr h₀ L s.heap m) (X : (Mine.hd.heap_39 w.params).In h₀) (N : News h₀ L s.heap ((a, accO dx #[] 0) :: (dx, W.dictOf [] 0) :: rest)) (T : Top topProg lo me mg mb h₀) (hf : env.frame = some L) (hke : env.scope.kind = .function) (hd : d < 900) (hu : u < 900)
 (hda : dx < a) (hr : ∀ p ∈ rest, p.1 < dx)
 (h : ∀ h' tk tk' n t0, Fr h₀ L h' m → News h₀ L h' ((a, accO dx #[] n) :: (dx, iniD w tk (.int 0 t0)) :: rest) → R (.ok (.ret .none)) (St s h' s.gens tk')) :
 codeAny (model Challenge.rw_if0017_01.row.prog w) (Around.mk none d (some (env :: outer)) gd u) (.call (.ref 82) ⟨[.ref a], []⟩) R s := by
  refine @Mine.sqz _ ?zmain ?zfin
  case zmain =>
    replace hda := ltN hda
    have hra : AllLt a rest := allLt_of fun p hp => Nat.lt_trans (hr p hp) hda
    replace hr := allLt_of hr
    revert X; k_fill; intro X
    k_data
    k_steps
    exact h _ _ _ _ _ (by assumption) (News.tail' (News.tail' (by assumption)))
  case zfin => run_tac Mine.sq
theorem acc_make {w : World} {A₀ : Around} {base h₀ : Heap} {outer : List Env} {env : Env} {L : Addr} {m : Str → Option Value} {s : Shared} {lo me} {mg mb} {Q : Value → Shared → Prop} {E : Value → Shared → Prop} {d u : Nat} {gd : Option (List Code)} {news : List (Addr × Obj)} {v : Value}
 (B : Below A₀ base outer h₀) (F : Fr h₀ L s.heap m) (X : (Mine.hd.heap_39 w.params).In h₀) (N : News h₀ L s.heap news) (T : Top topProg lo me mg mb h₀) (hf : env.frame = some L) (hke : env.scope.kind = .function) (hd : d < 800) (hu : u < 800)
 (h : ∀ a dx h' tk tk' n, Fr h₀ L h' m → News h₀ L h' ((a, accO dx #[] n) :: (dx, iniD w tk v) :: news) → (∀ p ∈ news, p.1 < dx) → dx < a → Q (.ref a) (St s h' s.gens tk')) :
 wpAny (model Challenge.rw_if0017_01.row.prog w) (Around.mk none d (some (env :: outer)) gd u) (call (.ref 145) [v]) Q E s := by
  refine @Mine.sqz _ ?zmain ?zfin
  case zmain =>
    refine lmake_K (fI := 82) F X N (acc_lmakes _) (by kernel_rfl) (by kernel_rfl) fun x dx h' F' N' l1 l2 => ?_
    exact init_c B F' X N' T hf hke (Nat.lt_of_lt_of_le (Nat.succ_lt_succ hd) (by decide)) (Nat.lt_of_lt_of_le (Nat.succ_lt_succ hu) (by decide)) l2 l1 fun h'' tk tk' n F'' N'' => ⟨rfl, h _ _ _ _ _ _ F'' N'' l1 l2⟩
  case zfin => run_tac Mine.sq
theorem acc_make0 {w : World} {A₀ : Around} {base h₀ : Heap} {outer : List Env} {env : Env} {L : Addr} {m : Str → Option Value} {s : Shared} {lo me} {mg mb} {Q : Value → Shared → Prop} {E : Value → Shared → Prop} {d u : Nat} {gd : Option (List Code)} {news : List (Addr × Obj)}
 (B : Below A₀ base outer h₀) (F : Fr h₀ L s.heap m) (X : (Mine.hd.heap_39 w.params).In h₀) (N : News h₀ L s.heap news) (T : Top topProg lo me mg mb h₀) (hf : env.frame = some L) (hke : env.scope.kind = .function) (hd : d < 800) (hu : u < 800)
 (h : ∀ a dx h' tk tk' n t0, Fr h₀ L h' m → News h₀ L h' ((a, accO dx #[] n) :: (dx, iniD w tk (.int 0 t0)) :: news) → (∀ p ∈ news, p.1 < dx) → dx < a → Q (.ref a) (St s h' s.gens tk')) :
 wpAny (model Challenge.rw_if0017_01.row.prog w) (Around.mk none d (some (env :: outer)) gd u) (call (.ref 145) []) Q E s := by
  refine @Mine.sqz _ ?zmain ?zfin
  case zmain =>
    refine lmake_K (fI := 82) F X N (acc_lmakes _) (by kernel_rfl) (by kernel_rfl) fun x dx h' F' N' l1 l2 => ?_
    exact init0_c B F' X N' T hf hke (Nat.lt_of_lt_of_le (Nat.succ_lt_succ hd) (by decide)) (Nat.lt_of_lt_of_le (Nat.succ_lt_succ hu) (by decide)) l2 l1 fun h'' tk tk' n t0 F'' N'' => ⟨rfl, h _ _ _ _ _ _ _ F'' N'' l1 l2⟩
  case zfin => run_tac Mine.sq
end Mine

theorem Mine.use_M87b : True := by
  w_top off
  run_tac Mine.use ["linesP", "linesZZ"]
  trivial
namespace Mine
theorem writer_make {w : World} {A₀ : Around} {base h₀ : Heap} {outer : List Env} {env : Env} {L : Addr} {m : Str → Option Value} {s : Shared} {lo me} {mg mb} {Q : Value → Shared → Prop} {E : Value → Shared → Prop} {d u : Nat} {gd : Option (List Code)}
 {wf bl : Addr} {n : Nat} {tb : Tok} {rest : List (Addr × Obj)}
 (B : Below A₀ base outer h₀) (F : Fr h₀ L s.heap m) (X : (Mine.hd.heap_39 w.params).In h₀) (N : News h₀ L s.heap ((bl, W.listOf #[.str (Str.ofString "b") tb] n) :: rest)) (T0 : Top topProg lo me mg mb h₀) (hf : env.frame = some L) (hke : env.scope.kind = .function) (hd : d < 320) (hu : u < 98)
 (h : ∀ x dx h' tk' wt tp1 tp2 dl es oes tp l4 ds ns pr pm nsi ti nn, Fr h₀ L h' m → ExclB w oes → (∀ p ∈ (bl, W.listOf #[.str (Str.ofString "b") tb] n) :: rest, p.1 < dx) → (@LT.lt Nat _ dx x ∧ @LT.lt Nat _ x dl ∧ @LT.lt Nat _ dl es ∧ @LT.lt Nat _ es tp ∧ @LT.lt Nat _ tp l4 ∧ @LT.lt Nat _ l4 ds ∧ @LT.lt Nat _ ds ns ∧ @LT.lt Nat _ ns pr ∧ nsi.size ≤ 2) →
   News h₀ L h' ((pr, W.listOf #[.bool false] 0) :: (ns, W.listOf nsi nn) :: (ds, W.listOf #[.ref l4] 0) :: (l4, W.listOf #[.ref tp] 0) :: (tp, xmlTup tp1 tp2) :: (es, oes) :: (dl, W.listOf #[] 0) :: (x, instObj 261 dx) :: (dx, wrD0 w wt wf dl es ds ns pm pr ti) :: (bl, W.listOf #[.str (Str.ofString "b") tb] n) :: rest) → Q (.ref x) (St s h' s.gens tk'))
 :
 wpAny (model Challenge.rw_if0017_01.row.prog w) (Around.mk none d (some (env :: outer)) gd u) (call (.ref 261) [.ref wf] [(Str.ofString "exclude_tags", .ref bl)]) Q E s := by
  refine @Mine.sqz _ ?zmain ?zfin
  case zmain =>
    refine wpAny_call (make_K (K := Mine.hd.heap_39 w.params) (fI := 178) F N (X.keeps F.keep) (by kernel_rfl) (by kernel_rfl) (by kernel_rfl) fun x dx h' F' N' l1 l2 => ?_)
    refine cinit_c B F' X N' T0 hf hke (Nat.lt_of_lt_of_le (Nat.succ_lt_succ hd) (by decide)) (Nat.lt_of_lt_of_le (Nat.succ_lt_succ hu) (by decide)) l2 (fun p hp => l1 p (.tail _ hp)) (l1 _ (.head _)) ?_
    intro h'' tk' wt tp1 tp2 dl es oes tp l4 ds ns pr pm nsi ti nn F2 hex lt N2
    exact ⟨rfl, h x dx h'' tk' wt tp1 tp2 dl es oes tp l4 ds ns pr pm nsi ti nn F2 hex l1 ⟨l2, lt⟩ N2⟩
  case zfin => run_tac Mine.sq
theorem isTabE_excl {w : World} {o : Obj} (h : ExclB w o) : isTabE o = false := by
  obtain ⟨_, es, ep, t, hd, _⟩ := h
  unfold isTabE; rw [hd]
end Mine

theorem Mine.use_M88p : True := by
  w_top off
  run_tac Mine.use ["linesP", "linesZZ"]
  trivial
namespace Mine
/-- the ledger behind the writer's making, brought into order -/
theorem sheet_pack {w : World} {g h : Heap} {L f2 pr ns ds l4 tp es dl x dx lB f1 hdl a dxS cA cH c1 c2 : Addr} {o2 p1 n1 d1 e1 x1 x2 b1 o1 h1 a1 oA oH c1o c2o : Obj} {tp1 tp2 tkS t0S : Tok} {E T : List (Addr × Obj)}
  (N : News g L h ((f2, o2) :: (pr, p1) :: (ns, n1) :: (ds, d1) :: (l4, W.listOf #[.ref tp] 0) :: (tp, xmlTup tp1 tp2) :: (es, e1) :: (dl, W.listOf #[] 0) :: (x, x1) :: (dx, x2) :: (lB, b1) :: (f1, o1) :: (hdl, h1) :: (a, a1) :: (dxS, iniD w tkS (.int 0 t0S)) :: (cA, oA) :: (cH, oH) :: (E ++ T)))
  (hI : ∀ C, (f2, o2) ∈ C → (c2, c2o) ∈ C → IterSpec w f2 l4 tp C) (hW : ∀ C, (f1, o1) ∈ C → (c1, c1o) ∈ C → (cA, oA) ∈ C → (cH, oH) ∈ C → WriteSpec w f1 a dxS hdl C)
  (hf2 : ∃ fd, o2.data = .func fd) (hf1 : ∃ fd, o1.data = .func fd) (hc1 : (c1, c1o) ∈ T) (hc1a : ∀ q ∈ tabList, c1 ≠ q.1) (hc2 : (c2, c2o) ∈ T) (hc2a : ∀ q ∈ tabList, c2 ≠ q.1)
  (t2 : isTabE o2 = false) (t1 : isTabE o1 = false) (te : isTabE e1 = false) (tA : isTabE oA = false) (tH : isTabE oH = false) (tE : ∀ p ∈ E, isTabE p.2 = false)
  (lt : @LT.lt Nat _ cA dxS ∧ @LT.lt Nat _ cH dxS ∧ @LT.lt Nat _ dxS a ∧ @LT.lt Nat _ a hdl ∧ @LT.lt Nat _ hdl f1 ∧ @LT.lt Nat _ f1 dx ∧ @LT.lt Nat _ dx x ∧ @LT.lt Nat _ x dl ∧ @LT.lt Nat _ dl es ∧ @LT.lt Nat _ es tp ∧ @LT.lt Nat _ tp l4 ∧ @LT.lt Nat _ l4 ds ∧ @LT.lt Nat _ ds ns ∧ @LT.lt Nat _ ns pr ∧ @LT.lt Nat _ pr f2)
  (qE : ∀ p ∈ E, @LT.lt Nat _ p.1 dxS) :
  ∃ E2 C, ((dxS, iniD w tkS (.int 0 t0S)) ∈ E2 ∧ (dl, W.listOf #[] 0) ∈ E2 ∧ (l4, W.listOf #[.ref tp] 0) ∈ E2 ∧ (tp, xmlTup tp1 tp2) ∈ E2 ∧ (es, e1) ∈ E2 ∧ (cA, oA) ∈ E2 ∧ (cH, oH) ∈ E2 ∧ ∀ p ∈ E, p ∈ E2) ∧
    (Off6 E2 x dx pr ns a hdl ∧ (∀ p ∈ E2, p.1 ≠ ds) ∧ (∀ p ∈ E2, isTabE p.2 = false)) ∧
    (CIn C E2 T ∧ IterSpec w f2 l4 tp C ∧ (∃ fo fd, (f2, fo) ∈ E2 ∧ fo.data = .func fd) ∧ WriteSpec w f1 a dxS hdl C ∧ (∃ fo fd, (f1, fo) ∈ E2 ∧ fo.data = .func fd) ∧ ∀ p ∈ E, p ∈ C) ∧
    News g L h ((x, x1) :: (dx, x2) :: (pr, p1) :: (ns, n1) :: (ds, d1) :: (a, a1) :: (hdl, h1) :: (E2 ++ T)) := by
  refine @Mine.sqz _ ?zmain ?zfin
  case zmain =>
    obtain ⟨r1, r2, r3, r4, r5, r6, r7, r8, r9, r10, r11, r12, r13, r14, r15⟩ := lt
    obtain ⟨fd2, hf2⟩ := hf2
    obtain ⟨fd1, hf1⟩ := hf1
    have up : ∀ {d : Addr}, @LT.lt Nat _ dxS d → ∀ p ∈ E, p.1 ≠ d := fun q p hp => Nat.ne_of_lt (Nat.lt_trans (qE p hp) q)
    refine ⟨(f2, o2) :: (l4, W.listOf #[.ref tp] 0) :: (tp, xmlTup tp1 tp2) :: (es, e1) :: (dl, W.listOf #[] 0) :: (f1, o1) :: (dxS, iniD w tkS (.int 0 t0S)) :: (cA, oA) :: (cH, oH) :: E, (f2, o2) :: (c2, c2o) :: (f1, o1) :: (c1, c1o) :: (cA, oA) :: (cH, oH) :: E, ⟨?m1, ?m2, ?m3, ?m4, ?m5, ?m6, ?m7, ?m8⟩, ⟨⟨?x, ?dx, ?pr, ?ns, ?a, ?hdl⟩, ?ds, ?tab⟩, ⟨?cin, ?it, ⟨o2, fd2, .head _, hf2⟩, ?wr, ⟨o1, fd1, .tail _ (.tail _ (.tail _ (.tail _ (.tail _ (.head _))))), hf1⟩, fun p hp => .tail _ (.tail _ (.tail _ (.tail _ (.tail _ (.tail _ hp)))))⟩, news_sub N ?sub⟩
    case m1 => exact .tail _ (.tail _ (.tail _ (.tail _ (.tail _ (.tail _ (.head _))))))
    case m2 => exact .tail _ (.tail _ (.tail _ (.tail _ (.head _))))
    case m3 => exact .tail _ (.head _)
    case m4 => exact .tail _ (.tail _ (.head _))
    case m5 => exact .tail _ (.tail _ (.tail _ (.head _)))
    case m6 => exact .tail _ (.tail _ (.tail _ (.tail _ (.tail _ (.tail _ (.tail _ (.head _)))))))
    case m7 => exact .tail _ (.tail _ (.tail _ (.tail _ (.tail _ (.tail _ (.tail _ (.tail _ (.head _))))))))
    case m8 => exact fun p hp => .tail _ (.tail _ (.tail _ (.tail _ (.tail _ (.tail _ (.tail _ (.tail _ (.tail _ hp))))))))
    case x => exact List.forall_mem_cons.mpr ⟨by k_ne, List.forall_mem_cons.mpr ⟨by k_ne, List.forall_mem_cons.mpr ⟨by k_ne, List.forall_mem_cons.mpr ⟨by k_ne, List.forall_mem_cons.mpr ⟨by k_ne, List.forall_mem_cons.mpr ⟨by k_ne, List.forall_mem_cons.mpr ⟨by k_ne, List.forall_mem_cons.mpr ⟨by k_ne, List.forall_mem_cons.mpr ⟨by k_ne, up (by first | run_tac Mine.neT | omega)⟩⟩⟩⟩⟩⟩⟩⟩⟩
    case dx => exact List.forall_mem_cons.mpr ⟨by k_ne, List.forall_mem_cons.mpr ⟨by k_ne, List.forall_mem_cons.mpr ⟨by k_ne, List.forall_mem_cons.mpr ⟨by k_ne, List.forall_mem_cons.mpr ⟨by k_ne, List.forall_mem_cons.mpr ⟨by k_ne, List.forall_mem_cons.mpr ⟨by k_ne, List.forall_mem_cons.mpr ⟨by k_ne, List.forall_mem_cons.mpr ⟨by k_ne, up (by first | run_tac Mine.neT | omega)⟩⟩⟩⟩⟩⟩⟩⟩⟩
    case pr => exact List.forall_mem_cons.mpr ⟨by k_ne, List.forall_mem_cons.mpr ⟨by k_ne, List.forall_mem_cons.mpr ⟨by k_ne, List.forall_mem_cons.mpr ⟨by k_ne, List.forall_mem_cons.mpr ⟨by k_ne, List.forall_mem_cons.mpr ⟨by k_ne, List.forall_mem_cons.mpr ⟨by k_ne, List.forall_mem_cons.mpr ⟨by k_ne, List.forall_mem_cons.mpr ⟨by k_ne, up (by first | run_tac Mine.neT | omega)⟩⟩⟩⟩⟩⟩⟩⟩⟩
    case ns => exact List.forall_mem_cons.mpr ⟨by k_ne, List.forall_mem_cons.mpr ⟨by k_ne, List.forall_mem_cons.mpr ⟨by k_ne, List.forall_mem_cons.mpr ⟨by k_ne, List.forall_mem_cons.mpr ⟨by k_ne, List.forall_mem_cons.mpr ⟨by k_ne, List.forall_mem_cons.mpr ⟨by k_ne, List.forall_mem_cons.mpr ⟨by k_ne, List.forall_mem_cons.mpr ⟨by k_ne, up (by first | run_tac Mine.neT | omega)⟩⟩⟩⟩⟩⟩⟩⟩⟩
    case a => exact List.forall_mem_cons.mpr ⟨by k_ne, List.forall_mem_cons.mpr ⟨by k_ne, List.forall_mem_cons.mpr ⟨by k_ne, List.forall_mem_cons.mpr ⟨by k_ne, List.forall_mem_cons.mpr ⟨by k_ne, List.forall_mem_cons.mpr ⟨by k_ne, List.forall_mem_cons.mpr ⟨by k_ne, List.forall_mem_cons.mpr ⟨by k_ne, List.forall_mem_cons.mpr ⟨by k_ne, up (by first | run_tac Mine.neT | omega)⟩⟩⟩⟩⟩⟩⟩⟩⟩
    case hdl => exact List.forall_mem_cons.mpr ⟨by k_ne, List.forall_mem_cons.mpr ⟨by k_ne, List.forall_mem_cons.mpr ⟨by k_ne, List.forall_mem_cons.mpr ⟨by k_ne, List.forall_mem_cons.mpr ⟨by k_ne, List.forall_mem_cons.mpr ⟨by k_ne, List.forall_mem_cons.mpr ⟨by k_ne, List.forall_mem_cons.mpr ⟨by k_ne, List.forall_mem_cons.mpr ⟨by k_ne, up (by first | run_tac Mine.neT | omega)⟩⟩⟩⟩⟩⟩⟩⟩⟩
    case ds => exact List.forall_mem_cons.mpr ⟨by k_ne, List.forall_mem_cons.mpr ⟨by k_ne, List.forall_mem_cons.mpr ⟨by k_ne, List.forall_mem_cons.mpr ⟨by k_ne, List.forall_mem_cons.mpr ⟨by k_ne, List.forall_mem_cons.mpr ⟨by k_ne, List.forall_mem_cons.mpr ⟨by k_ne, List.forall_mem_cons.mpr ⟨by k_ne, List.forall_mem_cons.mpr ⟨by k_ne, up (by first | run_tac Mine.neT | omega)⟩⟩⟩⟩⟩⟩⟩⟩⟩
    case tab => exact List.forall_mem_cons.mpr ⟨t2, List.forall_mem_cons.mpr ⟨rfl, List.forall_mem_cons.mpr ⟨rfl, List.forall_mem_cons.mpr ⟨te, List.forall_mem_cons.mpr ⟨rfl, List.forall_mem_cons.mpr ⟨t1, List.forall_mem_cons.mpr ⟨rfl, List.forall_mem_cons.mpr ⟨tA, List.forall_mem_cons.mpr ⟨tH, tE⟩⟩⟩⟩⟩⟩⟩⟩⟩
    case it => exact hI _ (.head _) (.tail _ (.head _))
    case wr => exact hW _ (.tail _ (.tail _ (.head _))) (.tail _ (.tail _ (.tail _ (.head _)))) (.tail _ (.tail _ (.tail _ (.tail _ (.head _))))) (.tail _ (.tail _ (.tail _ (.tail _ (.tail _ (.head _))))))
    case cin =>
      refine List.forall_mem_cons.mpr ⟨.inl (.head _), List.forall_mem_cons.mpr ⟨.inr ⟨hc2, hc2a⟩, List.forall_mem_cons.mpr ⟨.inl (.tail _ (.tail _ (.tail _ (.tail _ (.tail _ (.head _)))))), List.forall_mem_cons.mpr ⟨.inr ⟨hc1, hc1a⟩, List.forall_mem_cons.mpr ⟨.inl ?a1, List.forall_mem_cons.mpr ⟨.inl ?a2, fun p hp => .inl (.tail _ (.tail _ (.tail _ (.tail _ (.tail _ (.tail _ (.tail _ (.tail _ (.tail _ hp)))))))))⟩⟩⟩⟩⟩⟩
      case a1 => exact .tail _ (.tail _ (.tail _ (.tail _ (.tail _ (.tail _ (.tail _ (.head _)))))))
      case a2 => exact .tail _ (.tail _ (.tail _ (.tail _ (.tail _ (.tail _ (.tail _ (.tail _ (.head _))))))))
    case sub =>
      repeat (apply Mine.subC; first | run_tac Mine.memT | focus (repeat' (first | exact List.Mem.head _ | refine List.Mem.tail _ ?_)))
      first | exact Mine.subD 0 rfl | exact Mine.subD 1 rfl | exact Mine.subD 2 rfl | exact Mine.subD 3 rfl | exact Mine.subD 4 rfl | exact Mine.subD 5 rfl | exact Mine.subD 6 rfl | exact Mine.subD 7 rfl | exact Mine.subD 8 rfl | exact Mine.subD 9 rfl | exact Mine.subD 10 rfl | exact Mine.subD 11 rfl | exact Mine.subD 12 rfl | exact Mine.subD 13 rfl | exact Mine.subD 14 rfl | exact Mine.subD 15 rfl | exact Mine.subD 16 rfl | exact Mine.subD 17 rfl | exact Mine.subD 18 rfl | exact Mine.subD 19 rfl | exact Mine.subD 20 rfl | exact Mine.subD 21 rfl | exact Mine.subD 22 rfl | exact Mine.subD 23 rfl
  case zfin => run_tac Mine.sq
end Mine

theorem Mine.use_M89 : True := by
  w_top off
  run_tac Mine.use ["linesP", "linesZZ"]
  trivial
namespace Mine
theorem oct (h : Int) (r : List Bool) : ovr h (true :: r) = (if 0 ≤ h then 1 else 0) + ovr (h + 1) r := rfl
theorem ocf (h : Int) (r : List Bool) : ovr h (false :: r) = ovr (h - 1) r := rfl
theorem dct (h : Int) (r : List Bool) : dwn h (true :: r) = dwn (h + 1) r := rfl
theorem dcf (h : Int) (r : List Bool) : dwn h (false :: r) = (if 0 < h then 1 else 0) + dwn (h - 1) r := rfl
theorem hct (h : Int) (r : List Bool) : hend h (true :: r) = hend (h + 1) r := rfl
theorem hcf (h : Int) (r : List Bool) : hend h (false :: r) = hend (h - 1) r := rfl
theorem ovr_t : ∀ (l : List Bool) (h : Int), ovr h (l ++ [true]) = ovr h l + ovr (hend h l) [true]
  | [], h => (Nat.zero_add _).symm
  | true :: r, h => by rw [List.cons_append, oct, oct h r, hct, ovr_t r, Nat.add_assoc]
  | false :: r, h => by rw [List.cons_append, ocf, ocf h r, hcf, ovr_t r]
theorem ovr_f : ∀ (l : List Bool) (h : Int), ovr h (l ++ [false]) = ovr h l
  | [], h => rfl
  | true :: r, h => by rw [List.cons_append, oct, oct h r, ovr_f r]
  | false :: r, h => by rw [List.cons_append, ocf, ocf h r, ovr_f r]
theorem dwn_t : ∀ (l : List Bool) (h : Int), dwn h (l ++ [true]) = dwn h l
  | [], h => rfl
  | true :: r, h => by rw [List.cons_append, dct, dct h r, dwn_t r]
  | false :: r, h => by rw [List.cons_append, dcf, dcf h r, dwn_t r]
theorem dwn_f : ∀ (l : List Bool) (h : Int), dwn h (l ++ [false]) = dwn h l + dwn (hend h l) [false]
  | [], h => (Nat.zero_add _).symm
  | true :: r, h => by rw [List.cons_append, dct, dct h r, hct, dwn_f r]
  | false :: r, h => by rw [List.cons_append, dcf, dcf h r, hcf, dwn_f r, Nat.add_assoc]
theorem ovr1 {h : Int} (q : 0 ≤ h) : ovr h [true] = 1 := by rw [oct, if_pos q]; rfl
theorem ovr0 {h : Int} (q : h < 0) : ovr h [true] = 0 := by rw [oct, if_neg (by omega)]; rfl
theorem dwn1 {h : Int} (q : 0 < h) : dwn h [false] = 1 := by rw [dcf, if_pos q]; rfl
theorem dwn0 {h : Int} (q : h ≤ 0) : dwn h [false] = 0 := by rw [dcf, if_neg (by omega)]; rfl
theorem told_hend : ∀ (l : List (Bool × Str)) (t : Str) (h : Int), (l.foldl toldStep (t, h)).2 = hend h (l.map Prod.fst)
  | [], t, h => rfl
  | (true, g) :: r, t, h => by
    rw [List.foldl_cons, List.map_cons, hend]
    unfold toldStep
    simp only [if_true]
    split <;> exact told_hend r _ _
  | (false, g) :: r, t, h => by
    rw [List.foldl_cons, List.map_cons, hend]
    unfold toldStep
    simp only [Bool.false_eq_true, if_false]
    split <;> exact told_hend r _ _
noncomputable def cnt3 (l : List (Bool × Str)) : Nat := 3 * ovr 0 (l.map Prod.fst) + dwn 0 (l.map Prod.fst)
theorem cnt3_up {l : List (Bool × Str)} {g : Str} (t : Str) : cnt3 (l ++ [(true, g)]) = cnt3 l + 3 * ovr (l.foldl toldStep (t, 0)).2 [true] := by
  unfold cnt3
  rw [told_hend, List.map_append, List.map_cons, List.map_nil, ovr_t, dwn_t]
  omega
theorem cnt3_dn {l : List (Bool × Str)} {g : Str} (t : Str) : cnt3 (l ++ [(false, g)]) = cnt3 l + dwn (l.foldl toldStep (t, 0)).2 [false] := by
  unfold cnt3
  rw [told_hend, List.map_append, List.map_cons, List.map_nil, ovr_f, dwn_f, Nat.add_assoc]
theorem arr_snoc {vs : Array Value} {k : Nat} (h : vs.size = k + 1) : ∃ (ps : Array Value) (v : Value), vs = ps.push v ∧ ps.size = k ∧ (∀ u ∈ ps, u ∈ vs) ∧ v ∈ vs := by
  refine @Mine.sqz _ ?zmain ?zfin
  case zmain =>
    obtain ⟨l⟩ := vs
    have hl : l.length = k + 1 := h
    have hne : l ≠ [] := fun e => by rw [e] at hl; cases hl
    refine ⟨l.dropLast.toArray, l.getLast hne, ?_, ?_, ?_, ?_⟩
    · rw [List.push_toArray, List.dropLast_concat_getLast hne]
    · show l.dropLast.length = k
      rw [List.length_dropLast, hl]; rfl
    · intro u hu
      exact List.mem_toArray.mpr (List.dropLast_subset l (List.mem_toArray.mp hu))
    · exact List.mem_toArray.mpr (List.getLast_mem hne)
  case zfin => run_tac Mine.sq
theorem arr_snoc1 {vs : Array Value} (h : 1 ≤ vs.size) : ∃ (ps : Array Value) (v : Value), vs = ps.push v ∧ ps.size + 1 = vs.size ∧ (∀ u ∈ ps, u ∈ vs) ∧ v ∈ vs := by
  obtain ⟨ps, v, e, z, r⟩ := arr_snoc (vs := vs) (k := vs.size - 1) (Nat.sub_add_cancel h).symm
  exact ⟨ps, v, e, by rw [z]; exact Nat.sub_add_cancel h, r⟩
theorem tn_le {H : Int} {i n : Nat} (h : H ≤ 0 + (↑(min i n) : Int) ∧ 0 - (↑(min i n) : Int) ≤ H) (hi : i < 10) : H.toNat ≤ 10 ∧ (-H).toNat ≤ 10 := by omega
theorem tn_dn {H : Int} (h : 0 < H) : H.toNat = (H - 1).toNat + 1 := by omega
theorem tn_up {H : Int} (h : 0 ≤ H) : (H + 1).toNat = H.toNat + 1 := by omega
theorem tm_dn {H : Int} (h : H ≤ 0) : (-(H - 1)).toNat = (-H).toNat + 1 := by omega
theorem tm_up {H : Int} (h : H < 0) : (-H).toNat = (-(H + 1)).toNat + 1 := by omega
theorem tn_dn0 {H : Int} (h : 0 < H) : 0 ≤ H - 1 := by omega
theorem tn_up0 {H : Int} (h : 0 ≤ H) : 0 ≤ H + 1 := by omega
theorem tm_pos {H : Int} (h : H < 0) : 0 < -H := by omega
theorem tm_100 {H : Int} (h : H.toNat ≤ 10 ∧ (-H).toNat ≤ 10) : -H < 100 := by omega
theorem tm_dn0 {H : Int} (h : H < 0) : H - 1 < 0 := by omega
theorem tm_dnE (H : Int) : -H + 1 = -(H - 1) := by omega
theorem tm_up0 {H : Int} (h : H < 0) (k : ¬ H + 1 = 0) : H + 1 < 0 := by omega
theorem tm_up1 {H : Int} (k : H + 1 = 0) : -H - 1 = 0 := by omega
theorem tm_upE (H : Int) : -H - 1 = -(H + 1) := by omega
/-- the shape of the names, the depth and the writer's stacks at a height -/
noncomputable def ShapeI (H ig : Int) (sd : Bool) (names psi nsi dsi : Array Value) : Prop :=
  (0 ≤ H ∧ ig = 0 ∧ names.size = H.toNat ∧ (∀ v ∈ names, ∃ t, v = .str (Str.ofString "a") t) ∧ (0 < H → sd = true) ∧ dsi.size = H.toNat + 2 ∧ psi.size = H.toNat + 2 ∧ (H.toNat + 1 ≤ nsi.size ∧ nsi.size ≤ H.toNat + 3)) ∨
  (H < 0 ∧ ig = -H ∧ names.size = (-H).toNat ∧ (∀ v ∈ names, ∃ x t, v = .str x t) ∧ sd = false ∧ dsi.size = 2 ∧ psi.size = 2 ∧ (1 ≤ nsi.size ∧ nsi.size ≤ 3))
noncomputable def AllF (vs : Array Value) : Prop := ∀ v ∈ vs, v = .bool false
theorem AllF.push {vs : Array Value} (h : AllF vs) : AllF (vs.push (.bool false)) := fun v hv => (Array.mem_push.mp hv).elim (h v) id
/-- between two turns of the sheet's loop -/
noncomputable def ShI (w : World) (x dx wf dl es ds ns pm pr itf l4 tp a hdl dxS nl p cS cH : Addr) (wt : WT) (tp1 tp2 tkS t0S : Tok) (oes oS oH : Obj) (C T0 : List (Addr × Obj)) (itsP : Array Value) (nP : Nat) (ps : List (Bool × Str)) (g₀ : Array GenState) (i : Nat) (m : Str → Option Value) (news : List (Addr × Obj)) (g : Array GenState) : Prop :=
  ∃ (E T : List (Addr × Obj)) (items hitems names nsi psi dsi : Array Value) (na nh nn nsc npc nd : Nat) (rd sd : Bool) (ig : Int) (ti tsd : Tok),
    news = (x, instObj 261 dx) :: (dx, wrD w wt wf dl es ds ns pm pr itf true rd ig ti) :: (pr, W.listOf psi npc) :: (ns, W.listOf nsi nsc) :: (ds, W.listOf dsi nd) :: (a, accO dxS items na) :: (hdl, W.listOf hitems nh) :: (nl, W.listOf names nn) :: (E ++ T) ∧ g = g₀ ∧
    (m (Str.ofString "writer") = some (.ref x) ∧ m (Str.ofString "names") = some (.ref nl) ∧ m (Str.ofString "side") = some (.str (blk sd) tsd)) ∧
    ((dxS, iniD w tkS (.int 0 t0S)) ∈ E ∧ (dl, W.listOf #[] 0) ∈ E ∧ (l4, W.listOf #[.ref tp] 0) ∈ E ∧ (tp, xmlTup tp1 tp2) ∈ E ∧ (es, oes) ∈ E ∧ (cS, oS) ∈ E ∧ (cH, oH) ∈ E ∧ (p, W.listOf itsP nP) ∈ E ∧ PathIs E itsP ps) ∧
    (Off6 E x dx pr ns a hdl ∧ (∀ q ∈ E, q.1 ≠ ds) ∧ (∀ q ∈ E, q.1 ≠ nl) ∧ (∀ q ∈ E, isTabE q.2 = false)) ∧ (Tabs T ∧ TabsLe T0 T ∧ CIn C E T ∧ (∃ fo fd, (itf, fo) ∈ E ∧ fo.data = .func fd) ∧ (∃ fo fd, (wf, fo) ∈ E ∧ fo.data = .func fd)) ∧
    (Sheet E items ((ps.take i).foldl toldStep (("<r>" : Str), 0)).1 (2 + cnt3 (ps.take i)) ∧ AllNone hitems ∧ hitems.size ≤ 3 + 4 * i ∧ items.size ≤ 2 + 3 * i ∧ AllF psi ∧ StackIs E dsi l4) ∧
    ShapeI ((ps.take i).foldl toldStep (("<r>" : Str), 0)).2 ig sd names psi nsi dsi
theorem ShI.intro {w : World} {x dx wf dl es ds ns pm pr itf l4 tp a hdl dxS nl p cS cH : Addr} {wt : WT} {tp1 tp2 tkS t0S : Tok} {oes oS oH : Obj} {C T0 : List (Addr × Obj)} {itsP : Array Value} {nP : Nat} {ps : List (Bool × Str)} {g₀ : Array GenState} {i : Nat} {m : Str → Option Value} {news : List (Addr × Obj)} {g : Array GenState}  (E T : List (Addr × Obj)) (items hitems names nsi psi dsi : Array Value) (na nh nn nsc npc nd : Nat) (rd sd : Bool) (ig : Int) (ti tsd : Tok) (h0 : news = (x, instObj 261 dx) :: (dx, wrD w wt wf dl es ds ns pm pr itf true rd ig ti) :: (pr, W.listOf psi npc) :: (ns, W.listOf nsi nsc) :: (ds, W.listOf dsi nd) :: (a, accO dxS items na) :: (hdl, W.listOf hitems nh) :: (nl, W.listOf names nn) :: (E ++ T)) (h1 : g = g₀) (h2 : (m (Str.ofString "writer") = some (.ref x) ∧ m (Str.ofString "names") = some (.ref nl) ∧ m (Str.ofString "side") = some (.str (blk sd) tsd))) (h3 : ((dxS, iniD w tkS (.int 0 t0S)) ∈ E ∧ (dl, W.listOf #[] 0) ∈ E ∧ (l4, W.listOf #[.ref tp] 0) ∈ E ∧ (tp, xmlTup tp1 tp2) ∈ E ∧ (es, oes) ∈ E ∧ (cS, oS) ∈ E ∧ (cH, oH) ∈ E ∧ (p, W.listOf itsP nP) ∈ E ∧ PathIs E itsP ps)) (h4 : (Off6 E x dx pr ns a hdl ∧ (∀ q ∈ E, q.1 ≠ ds) ∧ (∀ q ∈ E, q.1 ≠ nl) ∧ (∀ q ∈ E, isTabE q.2 = false))) (h5 : (Tabs T ∧ TabsLe T0 T ∧ CIn C E T ∧ (∃ fo fd, (itf, fo) ∈ E ∧ fo.data = .func fd) ∧ (∃ fo fd, (wf, fo) ∈ E ∧ fo.data = .func fd))) (h6 : (Sheet E items ((ps.take i).foldl toldStep (("<r>" : Str), 0)).1 (2 + cnt3 (ps.take i)) ∧ AllNone hitems ∧ hitems.size ≤ 3 + 4 * i ∧ items.size ≤ 2 + 3 * i ∧ AllF psi ∧ StackIs E dsi l4)) (h7 : ShapeI ((ps.take i).foldl toldStep (("<r>" : Str), 0)).2 ig sd names psi nsi dsi) :
    ShI w x dx wf dl es ds ns pm pr itf l4 tp a hdl dxS nl p cS cH wt tp1 tp2 tkS t0S oes oS oH C T0 itsP nP ps g₀ i m news g := ⟨E, T, items, hitems, names, nsi, psi, dsi, na, nh, nn, nsc, npc, nd, rd, sd, ig, ti, tsd, h0, h1, h2, h3, h4, h5, h6, h7⟩
end Mine

theorem Mine.use_M89b : True := by
  w_top off
  run_tac Mine.use ["linesP", "linesZZ"]
  trivial
namespace Mine
section
variable {prog : Program} {w : World} {A : Around} {E : Value → Shared → Prop} {s : Shared} {l b : Addr} {items : Array Value} {Q : Value → Shared → Prop}
theorem eq_nil_pos (hl : s.heap.IsList l items) (hb : s.heap.IsList b #[]) (hz : 0 < items.size) (hu : A.units < 900) (h : Q (.bool false) s) : wpAny (model prog w) A (compareOp .Eq (.ref l) (.ref b)) Q E s :=
  PySem.SeqAt.eq_list_lengthsAt hl hb (by rw [bne_iff_ne]; show items.size ≠ 0; omega) (Nat.lt_of_lt_of_le hu (Nat.le_of_ble_eq_true rfl)) h
theorem eq_nil_zero (hl : s.heap.IsList l items) (hb : s.heap.IsList b #[]) (hz : items.size = 0) (hu : A.units < 900) (h : Q (.bool true) s) : wpAny (model prog w) A (compareOp .Eq (.ref l) (.ref b)) Q E s :=
  PySem.SeqAt.eq_listAt (e := fun _ => true) hl hb hz (Nat.lt_of_lt_of_le hu (Nat.le_of_ble_eq_true rfl)) (fun j h1 _ => absurd h1 (by omega)) (by rw [hz]; exact h)
end
theorem last_pushN {prog : Program} {w : World} {A : Around} {E : Value → Shared → Prop} {s : Shared} {h₀ : Heap} {L : Addr} {news : List (Addr × Obj)} {value slice : Expr} {l : Addr} {vi : Array Value} {v : Value} {n : Nat} {u : Tok} {Q : Value → Shared → Prop} (N : News h₀ L s.heap news) (hm : (l, W.listOf (vi.push v) n) ∈ news) (h : Q v s)
    (hs : subscripted slice false (.ref l) (.int (-1) u) = operate [.ref l, .int (-1) u] (getItem (.ref l) (.int (-1) u)) := by with_unfolding_all rfl) (hg : ∀ r, letTemporaryGo value (.ref l) r = pure () := by intro _; with_unfolding_all rfl) :
    wpAny (model prog w) A (subscriptTail value slice (.ref l) (.int (-1) u)) Q E s := last_push (News.isList N hm) h hs hg
theorem keep2 {h₀ h : Heap} {L it nl : Addr} {io no : Obj} {E3 news : List (Addr × Obj)} (N : News h₀ L h news) (hE : ∀ p ∈ E3, p ∈ news) (hi : (it, io) ∈ news) (hn : (nl, no) ∈ news) :
    ∃ E9 : List (Addr × Obj), (∀ p ∈ E9, p ∈ E3) ∧ (∀ p ∈ E9, p.1 ≠ it) ∧ (∀ p ∈ E9, p.1 ≠ nl) ∧ (∀ p ∈ E3, p.1 ≠ it → p.1 ≠ nl → p ∈ E9) ∧ ∀ p ∈ E3, p.2 ≠ io → p.2 ≠ no → p ∈ E9 := by
  refine @Mine.sqz _ ?zmain ?zfin
  case zmain =>
    have k : ∀ p ∈ E3, p.1 ≠ it → p.1 ≠ nl → p ∈ E3.filter (fun p : Addr × Obj => p.1 != it && p.1 != nl) := fun p hp h1 h2 => List.mem_filter.mpr ⟨hp, by simp [h1, h2]⟩
    refine ⟨E3.filter (fun p : Addr × Obj => p.1 != it && p.1 != nl), fun p hp => (List.mem_filter.mp hp).1, fun p hp => ?_, fun p hp => ?_, k, fun p hp h1 h2 => k p hp (fun e => ?_) fun e => ?_⟩
    · have := (List.mem_filter.mp hp).2; simp at this; exact this.1
    · have := (List.mem_filter.mp hp).2; simp at this; exact this.2
    · obtain ⟨b, ob⟩ := p
      obtain rfl : b = it := e
      exact h1 (news_same N (hE _ hp) hi)
    · obtain ⟨b, ob⟩ := p
      obtain rfl : b = nl := e
      exact h2 (news_same N (hE _ hp) hn)
  case zfin => run_tac Mine.sq
theorem Sheet.monoF {E E' : List (Addr × Obj)} {items : Array Value} {txt : Str} {n : Nat} (h : Sheet E items txt n) (k : ∀ p ∈ E, (∃ vs, p.2 = tupO vs) → p ∈ E') : Sheet E' items txt n := by
  obtain ⟨qs, ⟨z1, z2⟩, r⟩ := h
  exact ⟨qs, ⟨z1, fun i p e => let ⟨t, tb, tg, y1, y2⟩ := z2 i p e; ⟨t, tb, tg, y1, k _ y2 ⟨_, rfl⟩⟩⟩, r⟩
theorem StackIs.monoF {E E' : List (Addr × Obj)} {dsi : Array Value} {l4 : Addr} (h : StackIs E dsi l4) (k : ∀ p ∈ E, (∃ n, p.2 = W.listOf #[] n) → p ∈ E') : StackIs E' dsi l4 :=
  ⟨h.1, fun i v h0 e => let ⟨a, n, e1, e2⟩ := h.2 i v h0 e; ⟨a, n, e1, k _ e2 ⟨_, rfl⟩⟩⟩
theorem StackIs.pop {news : List (Addr × Obj)} {dsi : Array Value} {v : Value} {l4 : Addr} (h : StackIs news (dsi.push v) l4) (hz : 0 < dsi.size) : StackIs news dsi l4 := by
  refine @Mine.sqz _ ?zmain ?zfin
  case zmain =>
    refine ⟨?_, fun i u h0 e => h.2 i u h0 ?_⟩
    · have := h.1
      rw [Array.getElem?_push, if_neg (by omega)] at this
      exact this
    · have : i < dsi.size := (Array.getElem?_eq_some_iff.mp e).1
      rw [Array.getElem?_push, if_neg (by omega)]
      exact e
  case zfin => run_tac Mine.sq
theorem sign_len : ∀ x ∈ signs, 1 ≤ x.length ∧ x.length ≤ 1 := by decide +kernel
theorem hend_abs : ∀ (l : List Bool) (h : Int), hend h l ≤ h + (l.length : Int) ∧ h - (l.length : Int) ≤ hend h l
  | [], h => ⟨by show h ≤ h + ((0 : Nat) : Int); omega, by show h - ((0 : Nat) : Int) ≤ h; omega⟩
  | true :: r, h => by
    have := hend_abs r (h + 1)
    rw [hct, List.length_cons]; omega
  | false :: r, h => by
    have := hend_abs r (h - 1)
    rw [hcf, List.length_cons]; omega
end Mine

theorem Mine.use_M89c : True := by
  w_top off
  run_tac Mine.use ["linesP", "linesZZ"]
  trivial
namespace Mine
theorem tup_ne_seq {vs : List Value} {n i : Nat} {p : Addr} {vi : Array Value} : tupO vs ≠ W.listOf vi n ∧ tupO vs ≠ iterO p i :=
  ⟨fun e => absurd (congrArg Obj.cls e) (by intro e; injection e with e; exact absurd e (by decide)), fun e => absurd (congrArg Obj.cls e) (by intro e; injection e with e; exact absurd e (by decide))⟩
theorem nil_ne_iter {n i : Nat} {p : Addr} : W.listOf #[] n ≠ iterO p i :=
  fun e => absurd (congrArg Obj.cls e) (by intro e; injection e with e; exact absurd e (by decide))
theorem nil_ne_push {n n' : Nat} {vi : Array Value} {v : Value} : W.listOf #[] n ≠ W.listOf (vi.push v) n' := by
  intro e
  have h1 := congrArg Obj.data e
  have h2 : (#[] : Array Value) = vi.push v := by injection h1
  have h3 := congrArg Array.size h2
  rw [Array.size_push] at h3
  cases h3
/-- the ledger behind a step up over the floor, in order -/
theorem up_pack {g h : Heap} {L it nl x dx pr ns ds a hdl p l4 : Addr} {ox od op on_ os_ oa oh : Obj} {i nn n k : Nat} {names items items3 dsi : Array Value} {v : Value} {E E3 T3 C T0 T : List (Addr × Obj)} {Y add : Str}
  (N : News g L h ((x, ox) :: (dx, od) :: (pr, op) :: (ns, on_) :: (ds, os_) :: (a, oa) :: (hdl, oh) :: (E3 ++ T3))) (hT : Tabs T3)
  (sub : ∀ q ∈ (it, iterO p i) :: (nl, W.listOf (names.push v) nn) :: E, q ∈ E3) (off : Off6 E3 x dx pr ns a hdl) (offd : ∀ q ∈ E3, q.1 ≠ ds) (tab : ∀ q ∈ E3, isTabE q.2 = false)
  (sh : ∀ txt n, Sheet ((it, iterO p i) :: (nl, W.listOf (names.push v) nn) :: E) items txt n → Sheet E3 items3 (txt ++ add) (n + k)) (hsh : Sheet E items Y n) (st : StackIs E3 dsi l4)
  (di : ∀ q ∈ E, q.1 ≠ it) (un : ∀ q ∈ E, q.1 ≠ nl) (hC : CIn C E T) (hle : TabsLe T T3) (hle0 : TabsLe T0 T) :
  ∃ E9, (∀ q ∈ E, q ∈ E9) ∧ Off6 E9 x dx pr ns a hdl ∧ (∀ q ∈ E9, q.1 ≠ ds) ∧ (∀ q ∈ E9, q.1 ≠ nl) ∧ (∀ q ∈ E9, isTabE q.2 = false) ∧ Sheet E9 items3 (Y ++ add) (n + k) ∧ StackIs E9 dsi l4 ∧ CIn C E9 T3 ∧ TabsLe T0 T3 ∧ (∀ q ∈ E9 ++ T3, q.1 ≠ it) ∧
    News g L h ((x, ox) :: (dx, od) :: (pr, op) :: (ns, on_) :: (ds, os_) :: (a, oa) :: (hdl, oh) :: (it, iterO p i) :: (nl, W.listOf (names.push v) nn) :: (E9 ++ T3)) := by
  refine @Mine.sqz _ ?zmain ?zfin
  case zmain =>
    have hE3 : ∀ q ∈ E3, q ∈ (x, ox) :: (dx, od) :: (pr, op) :: (ns, on_) :: (ds, os_) :: (a, oa) :: (hdl, oh) :: (E3 ++ T3) := fun q hq => .tail _ (.tail _ (.tail _ (.tail _ (.tail _ (.tail _ (.tail _ (List.mem_append_left _ hq)))))))
    have hT3 : ∀ q ∈ T3, q ∈ (x, ox) :: (dx, od) :: (pr, op) :: (ns, on_) :: (ds, os_) :: (a, oa) :: (hdl, oh) :: (E3 ++ T3) := fun q hq => .tail _ (.tail _ (.tail _ (.tail _ (.tail _ (.tail _ (.tail _ (List.mem_append_right _ hq)))))))
    have hit := sub _ (.head _)
    have hnl := sub _ (.tail _ (.head _))
    obtain ⟨E9, k1, k2, k3, k4, k5⟩ := keep2 N hE3 (hE3 _ hit) (hE3 _ hnl)
    have hs : ∀ q ∈ E, q ∈ E9 := fun q hq => k4 q (sub q (.tail _ (.tail _ hq))) (di q hq) (un q hq)
    refine ⟨E9, hs, ⟨fun q hq => off.x q (k1 q hq), fun q hq => off.dx q (k1 q hq), fun q hq => off.pr q (k1 q hq), fun q hq => off.ns q (k1 q hq), fun q hq => off.a q (k1 q hq), fun q hq => off.hdl q (k1 q hq)⟩, fun q hq => offd q (k1 q hq), k3, fun q hq => tab q (k1 q hq), ?_, ?_, (hC.up hs).le hle, hle0.trans hle, ?_, news_sub N ?_⟩
    · refine (sh Y n (hsh.mono fun q hq => .tail _ (.tail _ hq))).monoF fun q hq ⟨vs, e⟩ => k5 q hq ?_ ?_
      · rw [e]; exact (tup_ne_seq (n := 0) (vi := #[])).2
      · rw [e]; exact (tup_ne_seq (i := 0) (p := it)).1
    · refine st.monoF fun q hq ⟨n, e⟩ => k5 q hq ?_ ?_
      · rw [e]; exact nil_ne_iter
      · rw [e]; exact nil_ne_push
    · intro q hq
      rcases List.mem_append.mp hq with hq | hq
      · exact k2 q hq
      · exact tabs_apart N hT3 hT (hE3 _ hit) (tab _ hit) q hq
    · intro q hq
      rcases List.mem_cons.mp hq with rfl | hq
      · exact .head _
      rcases List.mem_cons.mp hq with rfl | hq
      · exact .tail _ (.head _)
      rcases List.mem_cons.mp hq with rfl | hq
      · exact .tail _ (.tail _ (.head _))
      rcases List.mem_cons.mp hq with rfl | hq
      · exact .tail _ (.tail _ (.tail _ (.head _)))
      rcases List.mem_cons.mp hq with rfl | hq
      · exact .tail _ (.tail _ (.tail _ (.tail _ (.head _))))
      rcases List.mem_cons.mp hq with rfl | hq
      · exact .tail _ (.tail _ (.tail _ (.tail _ (.tail _ (.head _)))))
      rcases List.mem_cons.mp hq with rfl | hq
      · exact .tail _ (.tail _ (.tail _ (.tail _ (.tail _ (.tail _ (.head _))))))
      rcases List.mem_cons.mp hq with rfl | hq
      · exact hE3 _ hit
      rcases List.mem_cons.mp hq with rfl | hq
      · exact hE3 _ hnl
      rcases List.mem_append.mp hq with hq | hq
      · exact hE3 _ (k1 _ hq)
      · exact hT3 _ hq
  case zfin => run_tac Mine.sq
end Mine

theorem Mine.row_linesM : True := by
  k_with "@linesM@call ref" => ((k_here; (with_reducible show wpAny _ _ (call (Value.ref 145) _) _ _ _); (try dsimp only [List.nil_append]); k_dflt (first | (refine' Mine.acc_make0 ?cB ?cF ?cX ?cN ?cT ?cf ?ck ?cd ?cu ?_; (case cB => k_asm); (case cF => k_asm); (case cX => k_asm); (case cN => k_asm); (case cT => k_asm); (case cf => exact rfl); (case ck => exact rfl); (case cd => ((try dsimp only [Around.deeper, Around.in1]); first | exact Nat.lt_of_lt_of_le (by assumption) (by decide) | exact Nat.lt_of_lt_of_le (Nat.succ_lt_succ (by assumption)) (by decide) | exact Nat.lt_of_lt_of_le (Nat.succ_lt_succ (Nat.succ_lt_succ (by assumption))) (by decide) | omega)); (case cu => ((try dsimp only [Around.deeper, Around.in1]); first | exact Nat.lt_of_lt_of_le (by assumption) (by decide) | exact Nat.lt_of_lt_of_le (Nat.succ_lt_succ (by assumption)) (by decide) | exact Nat.lt_of_lt_of_le (Nat.succ_lt_succ (Nat.succ_lt_succ (by assumption))) (by decide) | omega)); intro a' dx' h' tk' tk2' n' t0' F' N' l1 l2) | (refine' Mine.acc_make ?cB ?cF ?cX ?cN ?cT ?cf ?ck ?cd ?cu ?_; (case cB => k_asm); (case cF => k_asm); (case cX => k_asm); (case cN => k_asm); (case cT => k_asm); (case cf => exact rfl); (case ck => exact rfl); (case cd => ((try dsimp only [Around.deeper, Around.in1]); first | exact Nat.lt_of_lt_of_le (by assumption) (by decide) | exact Nat.lt_of_lt_of_le (Nat.succ_lt_succ (by assumption)) (by decide) | exact Nat.lt_of_lt_of_le (Nat.succ_lt_succ (Nat.succ_lt_succ (by assumption))) (by decide) | omega)); (case cu => ((try dsimp only [Around.deeper, Around.in1]); first | exact Nat.lt_of_lt_of_le (by assumption) (by decide) | exact Nat.lt_of_lt_of_le (Nat.succ_lt_succ (by assumption)) (by decide) | exact Nat.lt_of_lt_of_le (Nat.succ_lt_succ (Nat.succ_lt_succ (by assumption))) (by decide) | omega)); intro a' dx' h' tk' tk2' n' F' N' l1 l2)); (first | k_lt l1 | replace l1 := allLt_of l1); (k_lt2 l2); (try dsimp only)))
  trivial
theorem Mine.row_linesN : True := by
  k_with "@linesN@eval Lambda" => ((k_here; k_dflt (refine' kla_eval ?d0 ?_; (case d0 => exact rfl)); k_dflt (refine' Mine.lam_T (P := 296) (c := 298) (qn := "_law_sheet.<locals>.<lambda>") ?F ?N ?s ?X ?T ?T0 ?C ?cd ?P ?q ?cl ?_; (case cd => exact rfl); (case F => k_asm); (case N => k_asm); (case T => assumption); (case s => (repeat' (first | exact Mine.Split.app | exact Mine.Split.nil | refine' Mine.Split.cons ?_))); (case X => (repeat' (first | assumption | (refine List.forall_mem_cons.mpr ⟨?_, ?_⟩) | exact List.forall_mem_nil _ | exact rfl | exact Mine.isTabE_cell (by assumption) | exact Mine.isTabE_dict (by assumption) | exact Mine.isTabE_excl (by assumption) | fail))); (case T0 => k_asm); (case C => exact codeHd_of_K (by k_asm) (by kernel_rfl)); (case q => exact rfl); (case P => decide); (case cl => exact rfl)); intro f' c' oc' ct' h' tk' Tn' F' N' hT' hle' hci' l1; (try dsimp only at N'); (try k_lt l1); (try simp only [List.cons_append, List.nil_append] at N')))
  k_with "@linesN@call ref" => ((k_here; (with_reducible show wpAny _ _ (call (Value.ref 261) _ _) _ _ _); (try dsimp only [List.nil_append]); k_dflt (refine' Mine.writer_make ?cB ?cF ?cX ?cN ?cT ?cf ?ck ?cd ?cu ?_; (case cB => k_asm); (case cF => k_asm); (case cX => k_asm); (case cN => k_asm); (case cT => k_asm); (case cf => exact rfl); (case ck => exact rfl); (case cd => ((try dsimp only [Around.deeper, Around.in1]); first | exact Nat.lt_of_lt_of_le (by assumption) (by decide) | exact Nat.lt_of_lt_of_le (Nat.succ_lt_succ (by assumption)) (by decide) | exact Nat.lt_of_lt_of_le (Nat.succ_lt_succ (Nat.succ_lt_succ (by assumption))) (by decide) | omega)); (case cu => ((try dsimp only [Around.deeper, Around.in1]); first | exact Nat.lt_of_lt_of_le (by assumption) (by decide) | exact Nat.lt_of_lt_of_le (Nat.succ_lt_succ (by assumption)) (by decide) | exact Nat.lt_of_lt_of_le (Nat.succ_lt_succ (Nat.succ_lt_succ (by assumption))) (by decide) | omega))); intro x' dx' h' tk' wt' tp1' tp2' dl' es' oes' tp' l4' ds' ns' pr' pm' nsi' ti' nn' F' hex' l1 l2 N'; (first | k_lt l1 | replace l1 := allLt_of l1); (try dsimp only)))
  trivial
theorem Mine.row_linesY : True := by
  k_with "@linesY@call ref" => ((k_here; (with_reducible show wpAny _ _ (call (Value.ref 231) _) _ _ _); refine Mine.stop_ ?_))
  k_with "@linesY@pyIter ref" => ((k_here; refine Mine.stop_ ?_))
  k_with "@linesY@call ref" => ((k_here; (with_reducible show wpAny _ _ (call (Value.ref 244) _) _ _ _); refine Mine.stop_ ?_))
  k_with "@linesY@compareOp Eq ref ref" => ((k_here; k_dflt (first | (refine' Mine.eq_nil_pos ?a ?b ?z ?u ?_; (case a => exact News.isList (by k_asm) (by run_tac Mine.memT)); (case b => exact News.isList (by k_asm) (by run_tac Mine.memT)); (case z => omega); (case u => ((try dsimp only [Around.deeper, Around.in1]); first | exact Nat.lt_of_lt_of_le (by assumption) (by decide) | exact Nat.lt_of_lt_of_le (Nat.succ_lt_succ (by assumption)) (by decide) | exact Nat.lt_of_lt_of_le (Nat.succ_lt_succ (Nat.succ_lt_succ (by assumption))) (by decide) | omega))) | (refine' Mine.eq_nil_zero ?a ?b ?z ?u ?_; (case a => exact News.isList (by k_asm) (by run_tac Mine.memT)); (case b => exact News.isList (by k_asm) (by run_tac Mine.memT)); (case z => omega); (case u => ((try dsimp only [Around.deeper, Around.in1]); first | exact Nat.lt_of_lt_of_le (by assumption) (by decide) | exact Nat.lt_of_lt_of_le (Nat.succ_lt_succ (by assumption)) (by decide) | exact Nat.lt_of_lt_of_le (Nat.succ_lt_succ (Nat.succ_lt_succ (by assumption))) (by decide) | omega))))))
  k_with "@linesY@call builtin:list.pop" => ((k_here; k_dflt ((try dsimp only); refine' Mine.list_pop_U ?F ?N ?U ?z ?_; (case F => k_asm); (case N => k_asm); (case U => k_updF); (case z => omega)); intro h' F' N'; (try dsimp only at N')))
  k_with "@linesY@subscriptTail" => ((k_here; (with_reducible show wpAny _ _ (subscriptTail _ _ (Value.ref _) (Value.int (-1) _)) _ _ _); k_dflt (refine' Mine.last_pushN ?N ?m ?_; (case N => k_asm); (case m => run_tac Mine.memT))))
  trivial
theorem Mine.row_linesZ : True := by
  k_with "@linesZ@CompSrcT" => ((k_here; k_dflt (refine' LCt.CompSrcT.ledger ?a1 ?a2 ?a3 ?a4 ?a5 ?_; (case a1 => rfl); (case a2 => k_asm); (case a3 => k_asm); (case a4 => run_tac Mine.memT); (case a5 => size_fits); intro g'; refine' Mine.none_rest (fun _ => rfl) (fun _ => rfl) ?b1 ?b2 ?b3 ?_ _ _; (case b1 => decide); (case b2 => assumption); (case b3 => exact .inr ⟨_, by run_tac Mine.memT, rfl, _, rfl⟩))))
  trivial
theorem Mine.use_M86 : True := by
  w_top off
  run_tac Mine.use ["linesP", "lines", "clines", "clines2", "lines3", "lines4", "lines5", "lines6", "linesM", "linesN", "linesW", "linesY", "linesZ", "linesZZ"]
  trivial
namespace Mine
theorem sheet_c {w : World} {A₀ : Around} {base h₀ : Heap} {outer : List Env} {env : Env} {L : Addr} {m : Str → Option Value} {s : Shared} {lo me} {mg mb} {R : Result → Shared → Prop} {d u : Nat} {gd : Option (List Code)}
 {p : Addr} {items : Array Value} {n : Nat} {E T : List (Addr × Obj)} {ps : List (Bool × Str)}
 (B : Below A₀ base outer h₀) (F : Fr h₀ L s.heap m) (X : (Mine.hd.heap_39 w.params).In h₀) (N : News h₀ L s.heap (E ++ T)) (T0 : Top topProg lo me mg mb h₀) (hf : env.frame = some L) (hke : env.scope.kind = .function) (hd : d < 310) (hu : u < 90)
 (hE : ∀ p ∈ E, isTabE p.2 = false) (hT : Tabs T)
 (hp : (p, W.listOf items n) ∈ E) (hz : items.size = 10) (hps : PathIs E items ps) (hsg : ∀ q ∈ ps, q.2 ∈ signs) (hH : (ps.foldl toldStep (("<r>" : Str), 0)).2 = 0)
 (h : ∀ t h' tk' dr a dx l its na n2 E' T' ti zt, Fr h₀ L h' m → News h₀ L h' ((t, tupO [.ref a, .ref l]) :: (l, W.listOf #[] n2) :: (a, accO dx its na) :: (E' ++ T')) → (dx, iniD w ti (.int 0 zt)) ∈ E' → (∀ p ∈ E, p ∈ E') → (∀ p ∈ E', isTabE p.2 = false) → Tabs T' → Sheet E' its (toldF ps) (3 + cnt3 ps) → its.size ≤ 40 → R (.ok (.ret (.ref t))) (StD s h' s.gens tk' dr))
 :
 codeAny (model Challenge.rw_if0017_01.row.prog w) (Around.mk none d (some (env :: outer)) gd u) (.call (.ref 299) ⟨[.ref p], []⟩) R s := by
  refine @Mine.sqz _ ?zmain ?zfin
  case zmain =>
    revert X; k_fill; intro X
    refine' code_defC ?k1 ?k2 ?k3 ?k4 ?k5 ?kA ?kF ?kK ?k6 ?k7 ?k8 ?k9 ?kB ?kD ?_ ?c2 ?c3 ?c4
    case kA => exact rfl
    case kF => assumption
    case kK => assumption
    case k1 => assumption
    case k2 => assumption
    case k3 => assumption
    case k4 => assumption
    case k5 => assumption
    case k6 => k_is
    case k7 => k_is
    case k8 => k_room
    case k9 => exact BindsTo.of_eq rfl
    case kB => exact rfl
    case kD => decide +kernel
    case c2 => exact rfl
    case c3 => exact rfl
    case c4 => exact rfl
    intro g' L' h' tk' cells' FG' F' N' Y' B' X' T' l1
    have hpT := List.mem_append_left T hp
    have l2 : AllLt (L' + 1) (E ++ T) := allLt_of fun p hp => Nat.lt_succ_of_lt (l1 p hp)
    have l3 : AllLt (L' + 1 + 1) (E ++ T) := allLt_of fun p hp => Nat.lt_succ_of_lt (Nat.lt_succ_of_lt (l1 p hp))
    have l4 : AllLt L' (E ++ T) := allLt_of l1
    clear l1
    k_cells Y'
    (try simp only [List.cons_append, List.nil_append] at N')
    (try dsimp only)
    k_steps
    rename_i o0 o02 d10 d20 a dxS h8 tkS tk2S nS t0S lS l2S h7 oA dA tkA hdl h6 lH h5 oH dH tkH f1 c1 oc1 ct1 h4 tkL Tn1 hT1 hle1 hci1 lF1 lB h3 lLB x dx h2 tkW wt tp1 tp2 dl es oes tp l4' ds ns pr pm nsi tiW nnW hex lW lX h1 F1 N1 f2 c2 oc2 ct2 h0 tk2 Tn F0 N0 hT2 hle2 hci2 lF2
    have eapp : ∀ {d : Addr} {T : List (Addr × Obj)}, AllLt d (E ++ T) → AllLt d E := fun q => allLt_of fun p hp => allLt_mem q p (List.mem_append_left _ hp)
    have qx : AllLt dx E := eapp lX.2.2.2.2.2.2.2
    clear N1 F1 l2 l3 d10 d20
    iterate 1 (first | walk1 | (dsimp only; walk1))
    rename_i h9 F9 N9
    have key := sheet_pack (c1 := c1) (c2 := c2) N9 ?hI ?hW ⟨_, rfl⟩ ⟨_, rfl⟩ (hci1.le hle2).mem hci1.apart hci2.mem hci2.apart rfl rfl (isTabE_excl hex) (isTabE_cell dA) (isTabE_cell dH) hE ⟨by first | run_tac Mine.neT | omega, by first | run_tac Mine.neT | omega, by first | run_tac Mine.neT | omega, by first | run_tac Mine.neT | omega, by first | run_tac Mine.neT | omega, by first | run_tac Mine.neT | omega, by first | run_tac Mine.neT | omega, by first | run_tac Mine.neT | omega, by first | run_tac Mine.neT | omega, by first | run_tac Mine.neT | omega, by first | run_tac Mine.neT | omega, by first | run_tac Mine.neT | omega, by first | run_tac Mine.neT | omega, by first | run_tac Mine.neT | omega, by first | run_tac Mine.neT | omega⟩ (fun p hp => allLt_mem lS.2.2 p (List.mem_append_left _ hp))
    case hI => intro C q1 q2; exact iter_lam q1 hci2 q2 (by decide) (by decide) rfl (by decide) rfl rfl
    case hW => intro C q1 q2 q3 q4; exact write_lam q1 hci1 q2 q4 dH q3 dA
    obtain ⟨E2, C, ⟨m1, m2, m3, m4, m5, m6, m7, hsub⟩, ⟨off, offd, tab2⟩, ⟨hC, hit, hif, hws, hwf, hCE⟩, N10⟩ := key
    obtain ⟨wtN, N11⟩ : ∃ wtN, News g' L' h9 ((x, instObj 261 dx) :: (dx, wrD w wtN f1 dl es ds ns pm pr f2 false false 0 tiW) :: (pr, W.listOf #[.bool false] 0) :: (ns, W.listOf nsi nnW) :: (ds, W.listOf #[.ref l4'] 0) :: (a, accO dxS #[] nS) :: (hdl, W.listOf #[] 0) :: (E2 ++ Tn)) := ⟨⟨wt.a0, wt.a1, wt.a2, wt.a3, wt.a4, wt.a5, wt.a6, wt.a7, wt.a8, wt.a9, wt.a10, wt.a11, wt.a12, wt.a13, wt.a14, wt.a15, wt.a16, tk2 + 1⟩, N10⟩
    replace hle2 : TabsLe T Tn := hle1.trans hle2
    have hp2 := hsub _ hp
    have hps2 := hps.mono hsub
    have y1 : @LT.lt Nat _ hdl dx := by omega
    have y2 : @LT.lt Nat _ a hdl := by omega
    clear N10 N9 hci1 hci2 hT hT1 hle1 lX lLB lF1 lF2 lH qx hpT hp hps l4 lS
    dsimp only
    k_steps
    unfold Stop
    rename_i at_ h8 oat F8 N8 lo8 hs8 fs8 hi8 fi8 l8
    obtain ⟨y3, y4, y5, y6, y7, y8, y9, y10, y11⟩ := lW
    refine' wpAny_call (start_c (oes := oes) (tag := Str.ofString "r") (psi := #[]) (nsi := nsi) (dsi := #[.ref l4']) (items := #[]) (hitems := #[]) (rs := false) (rd := false) (wt := wtN) (E := E2) (T := Tn) (C := C) (np := 0) (nn2 := nnW) (nd := 0) (na := nS) (nh := 0) (ti := tiW) start1_spec (by decide +kernel) (by decide) ?cB ?cF ?cX (news_sub N8 ?cN) ?cT ?cf ?ck ?cd ?cu ⟨by first | run_tac Mine.neT | omega, by first | run_tac Mine.neT | omega, by first | run_tac Mine.neT | omega, by first | run_tac Mine.neT | omega, by first | run_tac Mine.neT | omega, by first | run_tac Mine.neT | omega, by first | run_tac Mine.neT | omega⟩ hs8 m1 (by decide) (by decide) off offd tab2 hT2 m2 m3 m4 ?st (Nat.le_of_ble_eq_true rfl) (by first | run_tac Mine.neT | omega) (by decide) hC hit hif hws hwf lo8 m5 hex ?_)
    case cB => k_asm
    case cF => k_asm
    case cX => k_asm
    case cT => k_asm
    case cf => exact rfl
    case ck => exact rfl
    case cd => (try dsimp only [Around.deeper, Around.in1]); first | exact Nat.lt_of_lt_of_le (by assumption) (by decide) | exact Nat.lt_of_lt_of_le (Nat.succ_lt_succ (by assumption)) (by decide) | exact Nat.lt_of_lt_of_le (Nat.succ_lt_succ (Nat.succ_lt_succ (by assumption))) (by decide) | omega
    case cu => (try dsimp only [Around.deeper, Around.in1]); first | exact Nat.lt_of_lt_of_le (by assumption) (by decide) | exact Nat.lt_of_lt_of_le (Nat.succ_lt_succ (by assumption)) (by decide) | exact Nat.lt_of_lt_of_le (Nat.succ_lt_succ (Nat.succ_lt_succ (by assumption))) (by decide) | omega
    case st => exact ⟨rfl, fun i v h0 e => by cases i with | zero => omega | succ n => cases e⟩
    case cN =>
      repeat (apply Mine.subC; first | run_tac Mine.memT | focus (repeat' (first | exact List.Mem.head _ | refine List.Mem.tail _ ?_)))
      first | exact Mine.subD 7 rfl | exact Mine.subD 8 rfl | exact Mine.subD 9 rfl | exact Mine.subD 10 rfl | exact Mine.subD 11 rfl | exact Mine.subD 12 rfl | exact Mine.subD 13 rfl | exact Mine.subD 6 rfl | exact Mine.subD 5 rfl | exact Mine.subD 14 rfl | exact Mine.subD 15 rfl | exact Mine.subD 16 rfl | exact Mine.subD 17 rfl | exact Mine.subD 18 rfl | exact Mine.subD 19 rfl | exact Mine.subD 20 rfl
    intro h3 tk3 dr E3 T3 items3 hitems3 na3 nh3 e1 e2 nsc npc F3 N3 sub3 off3 offd3 tab3 hT3 hle3 sh3 no3 sz3 st3
    have hsh : Sheet E3 items3 (Str.ofString "<r>") 2 := by
      have := sh3 (Str.ofString "") 0 ⟨[], ⟨rfl, fun i p e => nomatch e⟩, rfl, (fun _ h => nomatch h), by decide +kernel⟩
      rwa [show Str.ofString "" ++ Str.ofString "<r>" = Str.ofString "<r>" by decide +kernel] at this
    obtain ⟨v0, v1, v2, v3, v4, v5⟩ := off3
    have no4 : AllNone hitems3 := no3 (fun v hv => absurd hv (Array.not_mem_empty v))
    have sz4 : hitems3.size = 2 := sz3
    have sz5 : items3.size = 2 := hsh.size
    clear F8 N8 l8 fs8 hi8 fi8 sh3 no3 sz3
    dsimp only
    k_steps
    unfold Stop
    rename_i tkx hA nl hB lN hCC hD FL NL
    have lE : AllLt nl E3 := allLt_of fun q hq => allLt_mem lN.2.2.2.2.2.2.2 q (List.mem_append_left _ hq)
    refine for_listD (vs := items) (ShI w x dx f1 dl es ds ns pm pr f2 l4' tp a hdl dxS nl p (L' + 1 + 1) (L' + 1) wtN tp1 tp2 tkS t0S oes oA oH C T items n ps s.gens) rfl FL (news_sub NL (b := (x, instObj 261 dx) :: (dx, wrD w wtN f1 dl es ds ns pm pr f2 true false 0 tiW) :: (pr, W.listOf ((#[].push (.bool false)).push (.bool false)) npc) :: (ns, W.listOf (nsi.push (.ref e1)) nsc) :: (ds, W.listOf (#[Value.ref l4'].push (.ref e2)) (0 + 1)) :: (a, accO dxS items3 na3) :: (hdl, W.listOf (hitems3.push .none) (nh3 + 1)) :: (nl, W.listOf #[] 0) :: (E3 ++ T3)) ?sub) ?hl ?start ?turn ?done
    case sub =>
      repeat (apply Mine.subC; first | run_tac Mine.memT | focus (repeat' (first | exact List.Mem.head _ | refine List.Mem.tail _ ?_)))
      first | exact Mine.subD 7 rfl | exact Mine.subD 8 rfl | exact Mine.subD 9 rfl | exact Mine.subD 10 rfl | exact Mine.subD 11 rfl | exact Mine.subD 12 rfl | exact Mine.subD 13 rfl | exact Mine.subD 6 rfl | exact Mine.subD 5 rfl | exact Mine.subD 14 rfl | exact Mine.subD 15 rfl | exact Mine.subD 16 rfl | exact Mine.subD 17 rfl | exact Mine.subD 18 rfl | exact Mine.subD 19 rfl | exact Mine.subD 20 rfl
    case hl =>
      rintro i m news g h ⟨E, T, items', hitems', names, nsi', psi', dsi', na, nh, nn, nsc', npc', nd, rd, sd, ig, ti, tsd, rfl, _, _, ⟨_, _, _, _, _, _, _, hq, _⟩, _⟩ _ N
      exact N.isList (.tail _ (.tail _ (.tail _ (.tail _ (.tail _ (.tail _ (.tail _ (.tail _ (List.mem_append_left _ hq)))))))))
    case start =>
      refine ShI.intro E3 T3 items3 (hitems3.push .none) (#[]) (nsi.push (.ref e1)) ((#[].push (.bool false)).push (.bool false)) (#[Value.ref l4'].push (.ref e2)) na3 (nh3 + 1) 0 nsc npc (0 + 1) false false 0 tiW _ rfl rfl ⟨rfl, rfl, rfl⟩ ⟨sub3 _ m1, sub3 _ m2, sub3 _ m3, sub3 _ m4, sub3 _ m5, sub3 _ m6, sub3 _ m7, sub3 _ hp2, hps2.mono sub3⟩ ⟨⟨v0, v1, v2, v3, v4, v5⟩, offd3, (fun q hq => Nat.ne_of_lt (allLt_mem lE q hq)), tab3⟩ ⟨hT3, hle2.trans hle3, (hC.up sub3).le hle3, fn_sub hif sub3, fn_sub hwf sub3⟩ ⟨?_, no4.push, ?_, ?_, ?_, st3⟩ ?_
      · exact hsh
      · rw [Array.size_push, sz4]; omega
      · rw [sz5]; omega
      · intro v hv
        rcases Array.mem_push.mp hv with hv | hv
        · rcases Array.mem_push.mp hv with hv | hv
          · exact absurd hv (Array.not_mem_empty v)
          · exact hv
        · exact hv
      · refine .inl ⟨Int.le_refl 0, rfl, rfl, fun v hv => absurd hv (Array.not_mem_empty v), fun h => absurd h (Int.lt_irrefl 0), rfl, rfl, ?_⟩
        rw [Array.size_push]
        exact ⟨Nat.succ_le_succ (Nat.zero_le _), by show nsi.size + 1 ≤ 0 + 3; omega⟩
    case turn =>
      clear hE hCE hH h hsh no4 sz4 sz5 st3 v0 v1 v2 v3 v4 v5 sub3 offd3 tab3 hT3 hle3 m1 m2 m3 m4 m5 m6 m7 hsub off offd tab2 hC hif hwf hT2 hle2 lE FL NL hp2 hps2 y11
      rintro i v m news g h tk dr it E' hv ⟨E, T', items', hitems', names, nsi', psi', dsi', na, nh, nn, nsc', npc', nd, rd, sd, ig, ti, tsd, rfl, rfl, ⟨hm1, hm2, hm3⟩, ⟨w1, w2, w3, w4, w5, w6, w7, w8, w9⟩, ⟨⟨u0, u1, u2, u3, u4, u5⟩, ud, un, ut⟩, ⟨hTt, hlt, hCt, hift, hwft⟩, ⟨hsht, hnot, hzh, hzi, hfp, hstt⟩, hshape⟩ F3 N3 di
      have hi : i < ps.length := by rw [← w9.1]; exact (Array.getElem?_eq_some_iff.mp hv).1
      have hi10 : i < 10 := by rw [← hz, w9.1]; exact hi
      obtain ⟨⟨b, sg⟩, hq⟩ : ∃ q, q = ps[i] := ⟨_, rfl⟩
      have e : ps[i]? = some (b, sg) := by rw [List.getElem?_eq_getElem hi, hq]
      obtain ⟨t, tb, ts, et, ht⟩ := w9.2 i _ e
      obtain rfl : v = .ref t := Option.some.inj (hv.symm.trans et)
      have hs1 : sg ∈ signs := hsg _ (List.mem_of_getElem? e)
      have htk : ps.take (i + 1) = ps.take i ++ [(b, sg)] := by rw [List.take_add_one, e]; rfl
      have hfold : (ps.take (i + 1)).foldl toldStep (("<r>" : Str), 0) = toldStep ((ps.take i).foldl toldStep (("<r>" : Str), 0)) (b, sg) := by rw [htk, List.foldl_append]; rfl
      have hcu : b = true → cnt3 (ps.take (i + 1)) = cnt3 (ps.take i) + 3 * ovr ((ps.take i).foldl toldStep (("<r>" : Str), 0)).2 [true] := fun q => by rw [htk, q, cnt3_up ("<r>" : Str)]
      have hcd : b = false → cnt3 (ps.take (i + 1)) = cnt3 (ps.take i) + dwn ((ps.take i).foldl toldStep (("<r>" : Str), 0)).2 [false] := fun q => by rw [htk, q, cnt3_dn ("<r>" : Str)]
      have hsl := sign_len sg hs1
      have hHb := hend_abs ((ps.take i).map Prod.fst) 0
      rw [← told_hend _ ("<r>" : Str), List.length_map, List.length_take] at hHb
      generalize hst : (ps.take i).foldl toldStep (("<r>" : Str), 0) = st at *
      obtain ⟨Y, H⟩ := st
      dsimp only at hsht hshape hcu hcd hHb
      replace hHb := tn_le hHb hi10
      have em : m = fun y => if y = Str.ofString "side" then some (Value.str (blk sd) tsd) else if y = Str.ofString "names" then some (Value.ref nl) else if y = Str.ofString "writer" then some (Value.ref x) else m y := map3 (by with_reducible assumption) (by with_reducible assumption) (by with_reducible assumption)
      rw [em] at F3
      have dj := allNe_of di
      simp only [AllNe, and_true] at dj
      refine wpAny_letOwnedTupleGo_listiter ⟨_, (N3 _ (.head _)).1, rfl, rfl⟩ ?_
      dsimp only [StD]
      cases b
      · replace ht : (t, tupO [.str (Str.ofString "") tb, .str sg ts]) ∈ E := ht
        have ht1 := List.mem_append_left T' ht
        rcases hshape with ⟨q1, rfl, q3, q4, q5, q6, q7, q8, q9⟩ | ⟨q1, rfl, q3, q4, rfl, q6, q7, q8, q9⟩
        · by_cases q0 : 0 < H
          · obtain rfl := q5 q0
            rw [show blk true = Str.ofString " " from rfl] at F3
            have t1 := tn_dn q0
            obtain ⟨nm, vv, rfl, k1, k2, k3⟩ := arr_snoc (vs := names) (k := (H - 1).toNat) (by omega)
            obtain ⟨ta9, rfl⟩ := q4 vv k3
            obtain ⟨psi, vp, rfl, p1, p2, p3⟩ := arr_snoc (vs := psi') (k := H.toNat + 1) (by first | run_tac Mine.neT | omega)
            obtain rfl := hfp vp p3
            obtain ⟨nsi2, vn, rfl, n1, n2, n3⟩ := arr_snoc1 (vs := nsi') (by omega)
            obtain ⟨dsi, vd, rfl, d1, d2, d3⟩ := arr_snoc (vs := dsi') (k := H.toNat + 1) (by first | run_tac Mine.neT | omega)
            k_steps
            unfold Stop
            rename_i le h1' F1 N1 l1e h0' F0 N0
            refine' wpAny_call (end_c (tag := Str.ofString "a") (psi := psi) (nsi := nsi2) (dsi := dsi) (items := items') (hitems := hitems') (na := na) (nh := nh) (np := npc') (nn2 := nsc') (nd := nd) (rs := true) (rd := rd) (bf := false) (wt := wtN) (ti := ti) (E := (it, iterO p (i + 1)) :: (nl, W.listOf nm (nn + 1)) :: E) (T := T') (C := C) ?cB ?cF ?cX (news_sub N0 ?cN) ?cT ?cf ?ck ?cd ?cu ⟨by first | run_tac Mine.neT | omega, by first | run_tac Mine.neT | omega, by first | run_tac Mine.neT | omega, by first | run_tac Mine.neT | omega, by first | run_tac Mine.neT | omega, by first | run_tac Mine.neT | omega⟩ (Mine.fcons (by k_ne) (Mine.fcons (by k_ne) u1)) (Mine.fcons (by k_ne) (Mine.fcons (by k_ne) u2)) (Mine.fcons (by k_ne) (Mine.fcons (by k_ne) u3)) (Mine.fcons (by k_ne) (Mine.fcons (by k_ne) u4)) (Mine.fcons (by k_ne) (Mine.fcons (by k_ne) u5)) (Mine.fcons (by k_ne) (Mine.fcons (by k_ne) ud)) hTt (.tail _ (.tail _ w1)) (.tail _ (.tail _ w2)) (.tail _ (.tail _ w3)) (.tail _ (.tail _ w4)) (hstt.mono fun q hq => .tail _ (.tail _ hq)) (by first | run_tac Mine.neT | omega) (by first | run_tac Mine.neT | omega) (by first | run_tac Mine.neT | omega) (hCt.use .refl (fun q hq => .tail _ (.tail _ (List.mem_append_left _ hq))) (fun q hq => .tail _ (.tail _ (List.mem_append_right _ hq)))) hit (fn_sub hift fun q hq => .tail _ (.tail _ hq)) hws (fn_sub hwft fun q hq => .tail _ (.tail _ hq)) (by decide +kernel) (by decide +kernel) (by first | run_tac Mine.neT | omega) (by first | run_tac Mine.neT | omega) ?_)
            case cB => k_asm
            case cF => k_asm
            case cX => k_asm
            case cT => k_asm
            case cf => exact rfl
            case ck => exact rfl
            case cd => (try dsimp only [Around.deeper, Around.in1]); first | exact Nat.lt_of_lt_of_le (by assumption) (by decide) | exact Nat.lt_of_lt_of_le (Nat.succ_lt_succ (by assumption)) (by decide) | exact Nat.lt_of_lt_of_le (Nat.succ_lt_succ (Nat.succ_lt_succ (by assumption))) (by decide) | omega
            case cu => (try dsimp only [Around.deeper, Around.in1]); first | exact Nat.lt_of_lt_of_le (by assumption) (by decide) | exact Nat.lt_of_lt_of_le (Nat.succ_lt_succ (by assumption)) (by decide) | exact Nat.lt_of_lt_of_le (Nat.succ_lt_succ (Nat.succ_lt_succ (by assumption))) (by decide) | omega
            case cN =>
              repeat (apply Mine.subC; first | run_tac Mine.memT | focus (repeat' (first | exact List.Mem.head _ | refine List.Mem.tail _ ?_)))
              first | exact Mine.subD 7 rfl | exact Mine.subD 8 rfl | exact Mine.subD 9 rfl | exact Mine.subD 10 rfl | exact Mine.subD 11 rfl | exact Mine.subD 12 rfl | exact Mine.subD 13 rfl | exact Mine.subD 6 rfl | exact Mine.subD 5 rfl | exact Mine.subD 14 rfl | exact Mine.subD 15 rfl | exact Mine.subD 16 rfl | exact Mine.subD 17 rfl | exact Mine.subD 18 rfl | exact Mine.subD 19 rfl | exact Mine.subD 20 rfl
            intro t9 h9' tk9 b9 g9 ka kb rd9 F9' N9' lt9 bg9 bl9 gl9
            rw [dn_txt] at bg9
            replace lt9 := allLt_of lt9
            simp only [AllLt, List.cons_append] at lt9
            have lE9 : AllLt t9 E := allLt_of fun q hq => allLt_mem lt9.2.2.2.2.2.2.2.2.2 q (List.mem_append_left _ hq)
            clear F1 N1 F0 N0
            dsimp only
            k_steps
            rename_i hY tkY hZ FZ NZ
            refine TurnEndD.intro (Q := fun _ _ => True) (news' := (x, instObj 261 dx) :: (dx, wrD w wtN f1 dl es ds ns pm pr f2 true rd9 0 ti) :: (pr, W.listOf psi (npc' + 1)) :: (ns, W.listOf nsi2 (nsc' + 1)) :: (ds, W.listOf dsi (nd + 1)) :: (a, accO dxS (items'.push (.ref t9)) (na + 1)) :: (hdl, W.listOf ((hitems'.push .none).push .none) (nh + 1 + 1)) :: (nl, W.listOf nm (nn + 1)) :: (((t9, tupO [.str b9 ka, .str g9 kb]) :: E) ++ T')) FZ (news_sub NZ ?sub) ?dd ?phi
            case sub =>
              repeat (apply Mine.subC; first | run_tac Mine.memT | focus (repeat' (first | exact List.Mem.head _ | refine List.Mem.tail _ ?_)))
              first | exact Mine.subD 7 rfl | exact Mine.subD 8 rfl | exact Mine.subD 9 rfl | exact Mine.subD 10 rfl | exact Mine.subD 11 rfl | exact Mine.subD 12 rfl | exact Mine.subD 13 rfl | exact Mine.subD 6 rfl | exact Mine.subD 5 rfl | exact Mine.subD 14 rfl | exact Mine.subD 15 rfl | exact Mine.subD 16 rfl | exact Mine.subD 17 rfl | exact Mine.subD 18 rfl | exact Mine.subD 19 rfl | exact Mine.subD 20 rfl
            case dd =>
              have dk := di
              refine Mine.fcons (by k_ne) (Mine.fcons (by k_ne) (Mine.fcons (by k_ne) (Mine.fcons (by k_ne) (Mine.fcons (by k_ne) (Mine.fcons (by k_ne) (Mine.fcons (by k_ne) (Mine.fcons (by k_ne) (Mine.fcons (by k_ne) (fun q hq => di q (.tail _ (.tail _ (.tail _ (.tail _ (.tail _ (.tail _ (.tail _ (.tail _ hq)))))))))))))))))
            case phi =>
              refine ShI.intro ((t9, tupO [.str b9 ka, .str g9 kb]) :: E) T' (items'.push (.ref t9)) ((hitems'.push .none).push .none) nm nsi2 psi dsi (na + 1) (nh + 1 + 1) (nn + 1) (nsc' + 1) (npc' + 1) (nd + 1) rd9 true 0 ti tsd rfl rfl ⟨rfl, rfl, rfl⟩ ⟨.tail _ w1, .tail _ w2, .tail _ w3, .tail _ w4, .tail _ w5, .tail _ w6, .tail _ w7, .tail _ w8, w9.mono fun q hq => .tail _ hq⟩ ⟨(Off6.mk u0 u1 u2 u3 u4 u5).cons (by k_ne) (by k_ne) (by k_ne) (by k_ne) (by k_ne) (by k_ne), Mine.fcons (by k_ne) ud, Mine.fcons (by k_ne) un, Mine.fcons rfl ut⟩ ⟨hTt, hlt, hCt.up fun q hq => .tail _ hq, fn_sub hift fun q hq => .tail _ hq, fn_sub hwft fun q hq => .tail _ hq⟩ ⟨?_, hnot.push.push, ?_, ?_, fun v hv => hfp v (p2 v hv), ?_⟩ ?_
              · rw [hfold, tsDU q0, hcd rfl, dwn1 q0]
                exact hsht.push (fun q hq => .tail _ hq) (Piece.intro (.head _) bg9 bl9 gl9)
              · simp only [Array.size_push]; omega
              · simp only [Array.size_push]; omega
              · exact StackIs.pop (hstt.mono fun q hq => .tail _ hq) (by first | run_tac Mine.neT | omega)
              · rw [hfold, tsDU q0]
                exact .inl ⟨tn_dn0 q0, rfl, by show nm.size = (H - 1).toNat; omega, fun v hv => q4 v (k2 v hv), fun _ => rfl, by show dsi.size = (H - 1).toNat + 2; omega, by show psi.size = (H - 1).toNat + 2; omega, ⟨by show (H - 1).toNat + 1 ≤ nsi2.size; omega, by show nsi2.size ≤ (H - 1).toNat + 3; omega⟩⟩
          · obtain rfl : H = 0 := Int.le_antisymm (Int.not_lt.mp q0) q1
            have t1 : Int.toNat 0 = 0 := rfl
            obtain rfl : names = #[] := Array.eq_empty_of_size_eq_zero q3
            k_steps
            unfold Stop
            rename_i tkB hY F1 N1 zz tq h0' oat F0 N0 lo9 hd9 hf9 ap9 l9
            clear ap9 hf9 zz N1 F1 hd9
            generalize hY.objs.size = at_ at N0 lo9 l9 ⊢
            refine' wpAny_call (startb_c (n := 0) (wt := wtN) (wf := f1) (dl := dl) (es := es) (ds := ds) (ns := ns) (pm := pm) (pr := pr) (itf := f2) (rs := true) (rd := rd) (ti := ti) (dx := dx) (oes := oes) (rest := (it, iterO p (i + 1)) :: (pr, W.listOf psi' npc') :: (ns, W.listOf nsi' nsc') :: (ds, W.listOf dsi' nd) :: (a, accO dxS items' na) :: (hdl, W.listOf hitems' nh) :: (nl, W.listOf (#[].push (Value.str (Str.ofString "b") (tkB + 1 + 1 + 1 + 1 + 1 + 1))) (nn + 1)) :: (E ++ T')) ?cB ?cF ?cX (news_sub N0 ?cN) ?cT ?cf ?ck ?cd ?cu y3 ?cr (.tail _ (.tail _ (.tail _ (.tail _ (.tail _ (.tail _ (.tail _ (List.mem_append_left _ w5)))))))) hex ?_)
            case cB => k_asm
            case cF => k_asm
            case cX => k_asm
            case cT => k_asm
            case cf => exact rfl
            case ck => exact rfl
            case cd => (try dsimp only [Around.deeper, Around.in1]); first | exact Nat.lt_of_lt_of_le (by assumption) (by decide) | exact Nat.lt_of_lt_of_le (Nat.succ_lt_succ (by assumption)) (by decide) | exact Nat.lt_of_lt_of_le (Nat.succ_lt_succ (Nat.succ_lt_succ (by assumption))) (by decide) | omega
            case cu => (try dsimp only [Around.deeper, Around.in1]); first | exact Nat.lt_of_lt_of_le (by assumption) (by decide) | exact Nat.lt_of_lt_of_le (Nat.succ_lt_succ (by assumption)) (by decide) | exact Nat.lt_of_lt_of_le (Nat.succ_lt_succ (Nat.succ_lt_succ (by assumption))) (by decide) | omega
            case cr => exact Mine.fcons (by k_ne) (Mine.fcons (by k_ne) (Mine.fcons (by k_ne) (Mine.fcons (by k_ne) (Mine.fcons (by k_ne) (Mine.fcons (by k_ne) (Mine.fcons (by k_ne) (List.forall_mem_append.mpr ⟨u1, tabs_apart N0 (fun q hq => .tail _ (.tail _ (.tail _ (.tail _ (.tail _ (.tail _ (.tail _ (.tail _ (.tail _ (.tail _ (.tail _ (List.mem_append_right _ hq)))))))))))) hTt (.tail _ (.tail _ (.tail _ (.tail _ (.head _))))) rfl⟩)))))))
            case cN =>
              repeat (apply Mine.subC; first | run_tac Mine.memT | focus (repeat' (first | exact List.Mem.head _ | refine List.Mem.tail _ ?_)))
              first | exact Mine.subD 7 rfl | exact Mine.subD 8 rfl | exact Mine.subD 9 rfl | exact Mine.subD 10 rfl | exact Mine.subD 11 rfl | exact Mine.subD 12 rfl | exact Mine.subD 13 rfl | exact Mine.subD 6 rfl | exact Mine.subD 5 rfl | exact Mine.subD 14 rfl | exact Mine.subD 15 rfl | exact Mine.subD 16 rfl | exact Mine.subD 17 rfl | exact Mine.subD 18 rfl | exact Mine.subD 19 rfl | exact Mine.subD 20 rfl
            intro h9' tk9 ti9 F9' N9'
            clear F0 N0
            dsimp only
            k_steps
            rename_i hW tkY hZ FZ NZ
            refine TurnEndD.intro (Q := fun _ _ => True) (news' := (x, instObj 261 dx) :: (dx, wrD w wtN f1 dl es ds ns pm pr f2 true rd 1 ti9) :: (pr, W.listOf psi' npc') :: (ns, W.listOf nsi' nsc') :: (ds, W.listOf dsi' nd) :: (a, accO dxS items' na) :: (hdl, W.listOf (hitems'.push .none) (nh + 1)) :: (nl, W.listOf (#[].push (Value.str (Str.ofString "b") (tkB + 1 + 1 + 1 + 1 + 1 + 1))) (nn + 1)) :: (E ++ T')) FZ (news_sub NZ ?sub) ?dd ?phi
            case sub =>
              repeat (apply Mine.subC; first | run_tac Mine.memT | focus (repeat' (first | exact List.Mem.head _ | refine List.Mem.tail _ ?_)))
              first | exact Mine.subD 7 rfl | exact Mine.subD 8 rfl | exact Mine.subD 9 rfl | exact Mine.subD 10 rfl | exact Mine.subD 11 rfl | exact Mine.subD 12 rfl | exact Mine.subD 13 rfl | exact Mine.subD 6 rfl | exact Mine.subD 5 rfl | exact Mine.subD 14 rfl | exact Mine.subD 15 rfl | exact Mine.subD 16 rfl | exact Mine.subD 17 rfl | exact Mine.subD 18 rfl | exact Mine.subD 19 rfl | exact Mine.subD 20 rfl
            case dd => exact Mine.fcons (by k_ne) (Mine.fcons (by k_ne) (Mine.fcons (by k_ne) (Mine.fcons (by k_ne) (Mine.fcons (by k_ne) (Mine.fcons (by k_ne) (Mine.fcons (by k_ne) (Mine.fcons (by k_ne) (fun q hq => di q (.tail _ (.tail _ (.tail _ (.tail _ (.tail _ (.tail _ (.tail _ (.tail _ hq))))))))))))))))
            case phi =>
              refine ShI.intro E T' items' (hitems'.push .none) (#[].push (Value.str (Str.ofString "b") (tkB + 1 + 1 + 1 + 1 + 1 + 1))) nsi' psi' dsi' na (nh + 1) (nn + 1) nsc' npc' nd rd false 1 ti9 tb rfl rfl ⟨rfl, rfl, rfl⟩ ⟨w1, w2, w3, w4, w5, w6, w7, w8, w9⟩ ⟨⟨u0, u1, u2, u3, u4, u5⟩, ud, un, ut⟩ ⟨hTt, hlt, hCt, hift, hwft⟩ ⟨?_, hnot.push, ?_, ?_, hfp, hstt⟩ ?_
              · rw [hfold, tsDD (by first | run_tac Mine.neT | omega), hcd rfl, dwn0 (by first | run_tac Mine.neT | omega)]
                exact hsht
              · rw [Array.size_push]; omega
              · omega
              · rw [hfold, tsDD (by first | run_tac Mine.neT | omega)]
                refine .inr ⟨by show (0 : Int) - 1 < 0; omega, rfl, rfl, fun v hv => (Array.mem_push.mp hv).elim (fun h => let ⟨t, e⟩ := q4 v h; ⟨_, t, e⟩) (fun e => ⟨_, _, e⟩), rfl, q6, q7, ?_, ?_⟩
                · exact Nat.le_trans (Nat.le_add_left 1 _) q8
                · exact q9
        · rw [show blk false = Str.ofString "" from rfl] at F3
          have t1 := tm_up q1
          have t2 := tm_dn (Int.le_of_lt q1)
          k_steps
          all_goals (
            unfold Stop
            rename_i tkB hY F1 N1 zz tq h0' oat F0 N0 lo9 hd9 hf9 ap9 l9
            clear ap9 hf9 zz N1 F1 hd9
            generalize hY.objs.size = at_ at N0 lo9 l9 ⊢
            obtain ⟨nv, N0, hnv⟩ : ∃ nv, News g' L' h0' ((it, iterO p (i + 1)) :: (x, instObj 261 dx) :: (dx, wrD w wtN f1 dl es ds ns pm pr f2 true rd (-H) ti) :: (pr, W.listOf psi' npc') :: (ns, W.listOf nsi' nsc') :: (ds, W.listOf dsi' nd) :: (a, accO dxS items' na) :: (hdl, W.listOf hitems' nh) :: (nl, W.listOf (names.push nv) (nn + 1)) :: (E ++ T')) ∧ ∃ y ty, nv = .str y ty := ⟨_, News.tail' (News.tail' N0), _, _, rfl⟩
            refine' wpAny_call (starti_c (n := 0) (oes := oes) (wt := wtN) (wf := f1) (dl := dl) (es := es) (ds := ds) (ns := ns) (pm := pm) (pr := pr) (itf := f2) (rs := true) (rd := rd) (ig := -H) (ti := ti) (dx := dx) (rest := (it, iterO p (i + 1)) :: (pr, W.listOf psi' npc') :: (ns, W.listOf nsi' nsc') :: (ds, W.listOf dsi' nd) :: (a, accO dxS items' na) :: (hdl, W.listOf hitems' nh) :: (nl, W.listOf (names.push nv) (nn + 1)) :: (E ++ T')) ?cB ?cF ?cX (news_sub N0 ?cN) ?cT ?cf ?ck ?cd ?cu y3 ?cr (tm_pos q1) (tm_100 hHb) ?_)
            case cB => k_asm
            case cF => k_asm
            case cX => k_asm
            case cT => k_asm
            case cf => exact rfl
            case ck => exact rfl
            case cd => (try dsimp only [Around.deeper, Around.in1]); first | exact Nat.lt_of_lt_of_le (by assumption) (by decide) | exact Nat.lt_of_lt_of_le (Nat.succ_lt_succ (by assumption)) (by decide) | exact Nat.lt_of_lt_of_le (Nat.succ_lt_succ (Nat.succ_lt_succ (by assumption))) (by decide) | omega
            case cu => (try dsimp only [Around.deeper, Around.in1]); first | exact Nat.lt_of_lt_of_le (by assumption) (by decide) | exact Nat.lt_of_lt_of_le (Nat.succ_lt_succ (by assumption)) (by decide) | exact Nat.lt_of_lt_of_le (Nat.succ_lt_succ (Nat.succ_lt_succ (by assumption))) (by decide) | omega
            case cr => exact Mine.fcons (by k_ne) (Mine.fcons (by k_ne) (Mine.fcons (by k_ne) (Mine.fcons (by k_ne) (Mine.fcons (by k_ne) (Mine.fcons (by k_ne) (Mine.fcons (by k_ne) (List.forall_mem_append.mpr ⟨u1, tabs_apart N0 (fun q hq => .tail _ (.tail _ (.tail _ (.tail _ (.tail _ (.tail _ (.tail _ (.tail _ (.tail _ (List.mem_append_right _ hq)))))))))) hTt (.tail _ (.tail _ (.head _))) rfl⟩)))))))
            case cN =>
              repeat (apply Mine.subC; first | run_tac Mine.memT | focus (repeat' (first | exact List.Mem.head _ | refine List.Mem.tail _ ?_)))
              first | exact Mine.subD 7 rfl | exact Mine.subD 8 rfl | exact Mine.subD 9 rfl | exact Mine.subD 10 rfl | exact Mine.subD 11 rfl | exact Mine.subD 12 rfl | exact Mine.subD 13 rfl | exact Mine.subD 6 rfl | exact Mine.subD 5 rfl | exact Mine.subD 14 rfl | exact Mine.subD 15 rfl | exact Mine.subD 16 rfl | exact Mine.subD 17 rfl | exact Mine.subD 18 rfl | exact Mine.subD 19 rfl | exact Mine.subD 20 rfl
            intro h9' tk9 ti9 F9' N9'
            clear F0 N0
            dsimp only
            k_steps
            rename_i hW tkY hZ FZ NZ
            refine TurnEndD.intro (Q := fun _ _ => True) (news' := (x, instObj 261 dx) :: (dx, wrD w wtN f1 dl es ds ns pm pr f2 true rd (-H + 1) ti9) :: (pr, W.listOf psi' npc') :: (ns, W.listOf nsi' nsc') :: (ds, W.listOf dsi' nd) :: (a, accO dxS items' na) :: (hdl, W.listOf (hitems'.push .none) (nh + 1)) :: (nl, W.listOf (names.push nv) (nn + 1)) :: (E ++ T')) FZ (news_sub NZ ?sub) ?dd ?phi
            case sub =>
              repeat (apply Mine.subC; first | run_tac Mine.memT | focus (repeat' (first | exact List.Mem.head _ | refine List.Mem.tail _ ?_)))
              first | exact Mine.subD 7 rfl | exact Mine.subD 8 rfl | exact Mine.subD 9 rfl | exact Mine.subD 10 rfl | exact Mine.subD 11 rfl | exact Mine.subD 12 rfl | exact Mine.subD 13 rfl | exact Mine.subD 6 rfl | exact Mine.subD 5 rfl | exact Mine.subD 14 rfl | exact Mine.subD 15 rfl | exact Mine.subD 16 rfl | exact Mine.subD 17 rfl | exact Mine.subD 18 rfl | exact Mine.subD 19 rfl | exact Mine.subD 20 rfl
            case dd => exact Mine.fcons (by k_ne) (Mine.fcons (by k_ne) (Mine.fcons (by k_ne) (Mine.fcons (by k_ne) (Mine.fcons (by k_ne) (Mine.fcons (by k_ne) (Mine.fcons (by k_ne) (Mine.fcons (by k_ne) (fun q hq => di q (.tail _ (.tail _ (.tail _ (.tail _ (.tail _ (.tail _ (.tail _ (.tail _ hq))))))))))))))))
            case phi =>
              refine ShI.intro E T' items' (hitems'.push .none) (names.push nv) nsi' psi' dsi' na (nh + 1) (nn + 1) nsc' npc' nd rd false (-H + 1) ti9 tsd rfl rfl ⟨rfl, rfl, rfl⟩ ⟨w1, w2, w3, w4, w5, w6, w7, w8, w9⟩ ⟨⟨u0, u1, u2, u3, u4, u5⟩, ud, un, ut⟩ ⟨hTt, hlt, hCt, hift, hwft⟩ ⟨?_, hnot.push, ?_, ?_, hfp, hstt⟩ ?_
              · rw [hfold, tsDD (Int.lt_asymm q1), hcd rfl, dwn0 (Int.le_of_lt q1)]
                exact hsht
              · rw [Array.size_push]; omega
              · omega
              · rw [hfold, tsDD (Int.lt_asymm q1)]
                refine .inr ⟨tm_dn0 q1, tm_dnE H, by show (names.push nv).size = (-(H - 1)).toNat; rw [Array.size_push]; omega, fun v hv => (Array.mem_push.mp hv).elim (q4 v) (fun e => by subst e; exact hnv), rfl, q6, q7, q8, q9⟩)
      · replace ht : (t, tupO [.str (Str.ofString " ") tb, .str sg ts]) ∈ E := ht
        have ht1 := List.mem_append_left T' ht
        rcases hshape with ⟨q1, rfl, q3, q4, q5, q6, q7, q8, q9⟩ | ⟨q1, rfl, q3, q4, rfl, q6, q7, q8, q9⟩
        · by_cases q0 : 0 < H
          · obtain rfl := q5 q0
            rw [show blk true = Str.ofString " " from rfl] at F3
            have t1 := tn_dn q0
            have t2 := tn_up q1
            obtain ⟨psi, vp, rfl, p1, p2, p3⟩ := arr_snoc (vs := psi') (k := H.toNat + 1) (by first | run_tac Mine.neT | omega)
            obtain rfl := hfp vp p3
            k_steps
            unfold Stop
            rename_i tkB hY F1 N1 zz tq h0' oat F0 N0 lo9 hd9 hf9 ap9 l9
            clear ap9 hf9 zz N1 F1
            have hd8 : oat.IsDictOf (PySem.strKind Challenge.rw_if0017_01.row.prog w) [(Str.ofString "k", Value.str (dbl sg) tq)] := hd9
            clear hd9
            have l8 := l9.2.2.2.2.1
            generalize hY.objs.size = at_ at N0 lo9 l8 l9 ⊢
            refine' wpAny_call (start_c (start2_spec hs1) (by decide +kernel) (by decide) (oes := oes) (tag := Str.ofString "a") (psi := psi) (nsi := nsi') (dsi := dsi') (items := items') (hitems := hitems') (rs := true) (rd := rd) (wt := wtN) (E := (it, iterO p (i + 1)) :: (nl, W.listOf (names.push (Value.str (Str.ofString "a") (tkB + 1))) (nn + 1)) :: E) (T := T') (C := C) (np := npc') (nn2 := nsc') (nd := nd) (na := na) (nh := nh) (ti := ti) ?cB ?cF ?cX (news_sub N0 ?cN) ?cT ?cf ?ck ?cd ?cu ⟨by first | run_tac Mine.neT | omega, by first | run_tac Mine.neT | omega, by first | run_tac Mine.neT | omega, by first | run_tac Mine.neT | omega, by first | run_tac Mine.neT | omega, by first | run_tac Mine.neT | omega, l8⟩ hd8 (.tail _ (.tail _ w1)) (by first | run_tac Mine.neT | omega) (by first | run_tac Mine.neT | omega) (((Off6.mk u0 u1 u2 u3 u4 u5).cons (by k_ne) (by k_ne) (by k_ne) (by k_ne) (by k_ne) (by k_ne)).cons (by k_ne) (by k_ne) (by k_ne) (by k_ne) (by k_ne) (by k_ne)) (Mine.fcons (by k_ne) (Mine.fcons (by k_ne) ud)) (Mine.fcons rfl (Mine.fcons rfl ut)) hTt (.tail _ (.tail _ w2)) (.tail _ (.tail _ w3)) (.tail _ (.tail _ w4)) (hstt.mono fun q hq => .tail _ (.tail _ hq)) (by first | run_tac Mine.neT | omega) (by first | run_tac Mine.neT | omega) (by rw [Array.size_push] at q7; omega) (hCt.up fun q hq => .tail _ (.tail _ hq)) hit (fn_sub hift fun q hq => .tail _ (.tail _ hq)) hws (fn_sub hwft fun q hq => .tail _ (.tail _ hq)) lo9 (.tail _ (.tail _ w5)) hex ?_)
            case cB => k_asm
            case cF => k_asm
            case cX => k_asm
            case cT => k_asm
            case cf => exact rfl
            case ck => exact rfl
            case cd => (try dsimp only [Around.deeper, Around.in1]); first | exact Nat.lt_of_lt_of_le (by assumption) (by decide) | exact Nat.lt_of_lt_of_le (Nat.succ_lt_succ (by assumption)) (by decide) | exact Nat.lt_of_lt_of_le (Nat.succ_lt_succ (Nat.succ_lt_succ (by assumption))) (by decide) | omega
            case cu => (try dsimp only [Around.deeper, Around.in1]); first | exact Nat.lt_of_lt_of_le (by assumption) (by decide) | exact Nat.lt_of_lt_of_le (Nat.succ_lt_succ (by assumption)) (by decide) | exact Nat.lt_of_lt_of_le (Nat.succ_lt_succ (Nat.succ_lt_succ (by assumption))) (by decide) | omega
            case cN =>
              repeat (apply Mine.subC; first | run_tac Mine.memT | focus (repeat' (first | exact List.Mem.head _ | refine List.Mem.tail _ ?_)))
              first | exact Mine.subD 7 rfl | exact Mine.subD 8 rfl | exact Mine.subD 9 rfl | exact Mine.subD 10 rfl | exact Mine.subD 11 rfl | exact Mine.subD 12 rfl | exact Mine.subD 13 rfl | exact Mine.subD 6 rfl | exact Mine.subD 5 rfl | exact Mine.subD 14 rfl | exact Mine.subD 15 rfl | exact Mine.subD 16 rfl | exact Mine.subD 17 rfl | exact Mine.subD 18 rfl | exact Mine.subD 19 rfl | exact Mine.subD 20 rfl
            intro h9 tk9 dr9 E3 T3 items3 hitems3 na3 nh3 e1 e2 nsc3 npc3 F9 N9 sub3 off3 offd3 tab3 hT3 hle3 sh3 no3 sz3 st3
            obtain ⟨E9, z1, z2, z3, z4, z5, z6, z7, z8, z9, z10, N9⟩ := up_pack (T0 := T) N9 hT3 sub3 off3 offd3 tab3 sh3 hsht st3 (fun q hq => di q (.tail _ (.tail _ (.tail _ (.tail _ (.tail _ (.tail _ (.tail _ (.tail _ (List.mem_append_left _ hq)))))))))) un hCt hle3 hlt
            obtain ⟨b0, b1, b2, b3, b4, b5⟩ := z2
            clear sub3 off3 offd3 tab3 sh3 st3 N0 F0 hle3
            dsimp only
            k_steps
            rename_i hW tkY hZ FZ NZ
            refine TurnEndD.intro (Q := fun _ _ => True) (news' := (x, instObj 261 dx) :: (dx, wrD w wtN f1 dl es ds ns pm pr f2 true rd 0 ti) :: (pr, W.listOf ((psi.push (.bool false)).push (.bool false)) npc3) :: (ns, W.listOf (nsi'.push (.ref e1)) nsc3) :: (ds, W.listOf (dsi'.push (.ref e2)) (nd + 1)) :: (a, accO dxS items3 na3) :: (hdl, W.listOf (hitems3.push .none) (nh3 + 1)) :: (nl, W.listOf (names.push (Value.str (Str.ofString "a") (tkB + 1))) (nn + 1)) :: (E9 ++ T3)) FZ (news_sub NZ ?sub) ?dd ?phi
            case sub =>
              repeat (apply Mine.subC; first | run_tac Mine.memT | focus (repeat' (first | exact List.Mem.head _ | refine List.Mem.tail _ ?_)))
              first | exact Mine.subD 7 rfl | exact Mine.subD 8 rfl | exact Mine.subD 9 rfl | exact Mine.subD 10 rfl | exact Mine.subD 11 rfl | exact Mine.subD 12 rfl | exact Mine.subD 13 rfl | exact Mine.subD 6 rfl | exact Mine.subD 5 rfl | exact Mine.subD 14 rfl | exact Mine.subD 15 rfl | exact Mine.subD 16 rfl | exact Mine.subD 17 rfl | exact Mine.subD 18 rfl | exact Mine.subD 19 rfl | exact Mine.subD 20 rfl
            case dd => exact Mine.fcons (by k_ne) (Mine.fcons (by k_ne) (Mine.fcons (by k_ne) (Mine.fcons (by k_ne) (Mine.fcons (by k_ne) (Mine.fcons (by k_ne) (Mine.fcons (by k_ne) (Mine.fcons (by k_ne) z10)))))))
            case phi =>
              have s1 := hsht.size
              have s2 := z6.size
              refine ShI.intro E9 T3 items3 (hitems3.push .none) (names.push (Value.str (Str.ofString "a") (tkB + 1))) (nsi'.push (.ref e1)) ((psi.push (.bool false)).push (.bool false)) (dsi'.push (.ref e2)) na3 (nh3 + 1) (nn + 1) nsc3 npc3 (nd + 1) rd true 0 ti tsd rfl rfl ⟨rfl, rfl, rfl⟩ ⟨z1 _ w1, z1 _ w2, z1 _ w3, z1 _ w4, z1 _ w5, z1 _ w6, z1 _ w7, z1 _ w8, w9.mono z1⟩ ⟨⟨b0, b1, b2, b3, b4, b5⟩, z3, z4, z5⟩ ⟨hT3, z9, z8, fn_sub hift z1, fn_sub hwft z1⟩ ⟨?_, (no3 hnot).push, ?_, ?_, hfp.push, z7⟩ ?_
              · rw [hfold, tsUU q1, hcu rfl, ovr1 q1]
                exact z6
              · rw [Array.size_push]; omega
              · omega
              · rw [hfold, tsUU q1]
                rw [Array.size_push] at q7
                refine .inl ⟨tn_up0 q1, rfl, ?_, fun v hv => (Array.mem_push.mp hv).elim (q4 v) (fun e => ⟨_, e⟩), fun _ => rfl, ?_, ?_, ?_, ?_⟩
                · rw [Array.size_push]; show names.size + 1 = (H + 1).toNat; omega
                · rw [Array.size_push]; show dsi'.size + 1 = (H + 1).toNat + 2; omega
                · rw [Array.size_push, Array.size_push]; show psi.size + 1 + 1 = (H + 1).toNat + 2; omega
                · rw [Array.size_push]; show (H + 1).toNat + 1 ≤ nsi'.size + 1; omega
                · rw [Array.size_push]; show nsi'.size + 1 ≤ (H + 1).toNat + 3; omega
          · obtain rfl : H = 0 := Int.le_antisymm (Int.not_lt.mp q0) q1
            have t1 : Int.toNat 0 = 0 := rfl
            obtain rfl : names = #[] := Array.eq_empty_of_size_eq_zero q3
            obtain ⟨psi, vp, rfl, p1, p2, p3⟩ := arr_snoc (vs := psi') (k := 1) (by first | run_tac Mine.neT | omega)
            obtain rfl := hfp vp p3
            k_steps
            unfold Stop
            rename_i tkB hY F1 N1 zz tq h0' oat F0 N0 lo9 hd9 hf9 ap9 l9
            clear ap9 hf9 zz N1 F1
            have hd8 : oat.IsDictOf (PySem.strKind Challenge.rw_if0017_01.row.prog w) [(Str.ofString "k", Value.str (dbl sg) tq)] := hd9
            clear hd9
            have l8 := l9.2.2.2.2.1
            generalize hY.objs.size = at_ at N0 lo9 l8 l9 ⊢
            refine' wpAny_call (start_c (start2_spec hs1) (by decide +kernel) (by decide) (oes := oes) (tag := Str.ofString "a") (psi := psi) (nsi := nsi') (dsi := dsi') (items := items') (hitems := hitems') (rs := true) (rd := rd) (wt := wtN) (E := (it, iterO p (i + 1)) :: (nl, W.listOf (#[].push (Value.str (Str.ofString "a") (tkB + 1))) (nn + 1)) :: E) (T := T') (C := C) (np := npc') (nn2 := nsc') (nd := nd) (na := na) (nh := nh) (ti := ti) ?cB ?cF ?cX (news_sub N0 ?cN) ?cT ?cf ?ck ?cd ?cu ⟨by first | run_tac Mine.neT | omega, by first | run_tac Mine.neT | omega, by first | run_tac Mine.neT | omega, by first | run_tac Mine.neT | omega, by first | run_tac Mine.neT | omega, by first | run_tac Mine.neT | omega, l8⟩ hd8 (.tail _ (.tail _ w1)) (by first | run_tac Mine.neT | omega) (by first | run_tac Mine.neT | omega) (((Off6.mk u0 u1 u2 u3 u4 u5).cons (by k_ne) (by k_ne) (by k_ne) (by k_ne) (by k_ne) (by k_ne)).cons (by k_ne) (by k_ne) (by k_ne) (by k_ne) (by k_ne) (by k_ne)) (Mine.fcons (by k_ne) (Mine.fcons (by k_ne) ud)) (Mine.fcons rfl (Mine.fcons rfl ut)) hTt (.tail _ (.tail _ w2)) (.tail _ (.tail _ w3)) (.tail _ (.tail _ w4)) (hstt.mono fun q hq => .tail _ (.tail _ hq)) (by first | run_tac Mine.neT | omega) (by first | run_tac Mine.neT | omega) (by rw [Array.size_push] at q7; omega) (hCt.up fun q hq => .tail _ (.tail _ hq)) hit (fn_sub hift fun q hq => .tail _ (.tail _ hq)) hws (fn_sub hwft fun q hq => .tail _ (.tail _ hq)) lo9 (.tail _ (.tail _ w5)) hex ?_)
            case cB => k_asm
            case cF => k_asm
            case cX => k_asm
            case cT => k_asm
            case cf => exact rfl
            case ck => exact rfl
            case cd => (try dsimp only [Around.deeper, Around.in1]); first | exact Nat.lt_of_lt_of_le (by assumption) (by decide) | exact Nat.lt_of_lt_of_le (Nat.succ_lt_succ (by assumption)) (by decide) | exact Nat.lt_of_lt_of_le (Nat.succ_lt_succ (Nat.succ_lt_succ (by assumption))) (by decide) | omega
            case cu => (try dsimp only [Around.deeper, Around.in1]); first | exact Nat.lt_of_lt_of_le (by assumption) (by decide) | exact Nat.lt_of_lt_of_le (Nat.succ_lt_succ (by assumption)) (by decide) | exact Nat.lt_of_lt_of_le (Nat.succ_lt_succ (Nat.succ_lt_succ (by assumption))) (by decide) | omega
            case cN =>
              repeat (apply Mine.subC; first | run_tac Mine.memT | focus (repeat' (first | exact List.Mem.head _ | refine List.Mem.tail _ ?_)))
              first | exact Mine.subD 7 rfl | exact Mine.subD 8 rfl | exact Mine.subD 9 rfl | exact Mine.subD 10 rfl | exact Mine.subD 11 rfl | exact Mine.subD 12 rfl | exact Mine.subD 13 rfl | exact Mine.subD 6 rfl | exact Mine.subD 5 rfl | exact Mine.subD 14 rfl | exact Mine.subD 15 rfl | exact Mine.subD 16 rfl | exact Mine.subD 17 rfl | exact Mine.subD 18 rfl | exact Mine.subD 19 rfl | exact Mine.subD 20 rfl
            intro h9 tk9 dr9 E3 T3 items3 hitems3 na3 nh3 e1 e2 nsc3 npc3 F9 N9 sub3 off3 offd3 tab3 hT3 hle3 sh3 no3 sz3 st3
            obtain ⟨E9, z1, z2, z3, z4, z5, z6, z7, z8, z9, z10, N9⟩ := up_pack (T0 := T) N9 hT3 sub3 off3 offd3 tab3 sh3 hsht st3 (fun q hq => di q (.tail _ (.tail _ (.tail _ (.tail _ (.tail _ (.tail _ (.tail _ (.tail _ (List.mem_append_left _ hq)))))))))) un hCt hle3 hlt
            obtain ⟨b0, b1, b2, b3, b4, b5⟩ := z2
            clear sub3 off3 offd3 tab3 sh3 st3 N0 F0 hle3
            dsimp only
            k_steps
            rename_i hW tkY hZ FZ NZ
            refine TurnEndD.intro (Q := fun _ _ => True) (news' := (x, instObj 261 dx) :: (dx, wrD w wtN f1 dl es ds ns pm pr f2 true rd 0 ti) :: (pr, W.listOf ((psi.push (.bool false)).push (.bool false)) npc3) :: (ns, W.listOf (nsi'.push (.ref e1)) nsc3) :: (ds, W.listOf (dsi'.push (.ref e2)) (nd + 1)) :: (a, accO dxS items3 na3) :: (hdl, W.listOf (hitems3.push .none) (nh3 + 1)) :: (nl, W.listOf (#[].push (Value.str (Str.ofString "a") (tkB + 1))) (nn + 1)) :: (E9 ++ T3)) FZ (news_sub NZ ?sub) ?dd ?phi
            case sub =>
              repeat (apply Mine.subC; first | run_tac Mine.memT | focus (repeat' (first | exact List.Mem.head _ | refine List.Mem.tail _ ?_)))
              first | exact Mine.subD 7 rfl | exact Mine.subD 8 rfl | exact Mine.subD 9 rfl | exact Mine.subD 10 rfl | exact Mine.subD 11 rfl | exact Mine.subD 12 rfl | exact Mine.subD 13 rfl | exact Mine.subD 6 rfl | exact Mine.subD 5 rfl | exact Mine.subD 14 rfl | exact Mine.subD 15 rfl | exact Mine.subD 16 rfl | exact Mine.subD 17 rfl | exact Mine.subD 18 rfl | exact Mine.subD 19 rfl | exact Mine.subD 20 rfl
            case dd => exact Mine.fcons (by k_ne) (Mine.fcons (by k_ne) (Mine.fcons (by k_ne) (Mine.fcons (by k_ne) (Mine.fcons (by k_ne) (Mine.fcons (by k_ne) (Mine.fcons (by k_ne) (Mine.fcons (by k_ne) z10)))))))
            case phi =>
              have s1 := hsht.size
              have s2 := z6.size
              refine ShI.intro E9 T3 items3 (hitems3.push .none) (#[].push (Value.str (Str.ofString "a") (tkB + 1))) (nsi'.push (.ref e1)) ((psi.push (.bool false)).push (.bool false)) (dsi'.push (.ref e2)) na3 (nh3 + 1) (nn + 1) nsc3 npc3 (nd + 1) rd true 0 ti tb rfl rfl ⟨rfl, rfl, rfl⟩ ⟨z1 _ w1, z1 _ w2, z1 _ w3, z1 _ w4, z1 _ w5, z1 _ w6, z1 _ w7, z1 _ w8, w9.mono z1⟩ ⟨⟨b0, b1, b2, b3, b4, b5⟩, z3, z4, z5⟩ ⟨hT3, z9, z8, fn_sub hift z1, fn_sub hwft z1⟩ ⟨?_, (no3 hnot).push, ?_, ?_, hfp.push, z7⟩ ?_
              · rw [hfold, tsUU q1, hcu rfl, ovr1 q1]
                exact z6
              · rw [Array.size_push]; omega
              · omega
              · rw [hfold, tsUU q1]
                rw [Array.size_push] at q7
                refine .inl ⟨Int.le_of_lt Int.zero_lt_one, rfl, rfl, fun v hv => (Array.mem_push.mp hv).elim (q4 v) (fun e => ⟨_, e⟩), fun _ => rfl, ?_, ?_, ?_, ?_⟩
                · rw [Array.size_push]; show dsi'.size + 1 = 3; omega
                · rw [Array.size_push, Array.size_push]; show psi.size + 1 + 1 = 3; omega
                · rw [Array.size_push]; show 2 ≤ nsi'.size + 1; omega
                · rw [Array.size_push]; show nsi'.size + 1 ≤ 4; omega
        · rw [show blk false = Str.ofString "" from rfl] at F3
          have t1 := tm_up q1
          obtain ⟨nm, vv, rfl, k1, k2, k3⟩ := arr_snoc (vs := names) (k := (-(H + 1)).toNat) (by omega)
          obtain ⟨xa9, ta9, rfl⟩ := q4 vv k3
          k_steps
          unfold Stop
          rename_i le h1' F1 N1 l1e h0' F0 N0
          refine' wpAny_call (endi_c (wt := wtN) (wf := f1) (dl := dl) (es := es) (ds := ds) (ns := ns) (pm := pm) (pr := pr) (itf := f2) (rs := true) (rd := rd) (ig := -H) (ti := ti) (dx := dx) (rest := (it, iterO p (i + 1)) :: (pr, W.listOf psi' npc') :: (ns, W.listOf nsi' nsc') :: (ds, W.listOf dsi' nd) :: (a, accO dxS items' na) :: (hdl, W.listOf hitems' nh) :: (nl, W.listOf nm (nn + 1)) :: (E ++ T')) ?cB ?cF ?cX (news_sub N0 ?cN) ?cT ?cf ?ck ?cd ?cu y3 ?cr (tm_pos q1) (tm_100 hHb) ?_)
          case cB => k_asm
          case cF => k_asm
          case cX => k_asm
          case cT => k_asm
          case cf => exact rfl
          case ck => exact rfl
          case cd => (try dsimp only [Around.deeper, Around.in1]); first | exact Nat.lt_of_lt_of_le (by assumption) (by decide) | exact Nat.lt_of_lt_of_le (Nat.succ_lt_succ (by assumption)) (by decide) | exact Nat.lt_of_lt_of_le (Nat.succ_lt_succ (Nat.succ_lt_succ (by assumption))) (by decide) | omega
          case cu => (try dsimp only [Around.deeper, Around.in1]); first | exact Nat.lt_of_lt_of_le (by assumption) (by decide) | exact Nat.lt_of_lt_of_le (Nat.succ_lt_succ (by assumption)) (by decide) | exact Nat.lt_of_lt_of_le (Nat.succ_lt_succ (Nat.succ_lt_succ (by assumption))) (by decide) | omega
          case cr => exact Mine.fcons (by k_ne) (Mine.fcons (by k_ne) (Mine.fcons (by k_ne) (Mine.fcons (by k_ne) (Mine.fcons (by k_ne) (Mine.fcons (by k_ne) (Mine.fcons (by k_ne) (List.forall_mem_append.mpr ⟨u1, tabs_apart N0 (fun q hq => .tail _ (.tail _ (.tail _ (.tail _ (.tail _ (.tail _ (.tail _ (.tail _ (.tail _ (.tail _ (List.mem_append_right _ hq))))))))))) hTt (.tail _ (.tail _ (.tail _ (.head _)))) rfl⟩)))))))
          case cN =>
            repeat (apply Mine.subC; first | run_tac Mine.memT | focus (repeat' (first | exact List.Mem.head _ | refine List.Mem.tail _ ?_)))
            first | exact Mine.subD 7 rfl | exact Mine.subD 8 rfl | exact Mine.subD 9 rfl | exact Mine.subD 10 rfl | exact Mine.subD 11 rfl | exact Mine.subD 12 rfl | exact Mine.subD 13 rfl | exact Mine.subD 6 rfl | exact Mine.subD 5 rfl | exact Mine.subD 14 rfl | exact Mine.subD 15 rfl | exact Mine.subD 16 rfl | exact Mine.subD 17 rfl | exact Mine.subD 18 rfl | exact Mine.subD 19 rfl | exact Mine.subD 20 rfl
          intro h9' tk9 ti9 F9' N9'
          clear F1 N1 F0 N0
          dsimp only
          k_steps
          rename_i hY tkY hZ FZ NZ
          refine TurnEndD.intro (Q := fun _ _ => True) (news' := (x, instObj 261 dx) :: (dx, wrD w wtN f1 dl es ds ns pm pr f2 true rd (-H - 1) ti9) :: (pr, W.listOf psi' npc') :: (ns, W.listOf nsi' nsc') :: (ds, W.listOf dsi' nd) :: (a, accO dxS items' na) :: (hdl, W.listOf (hitems'.push .none) (nh + 1)) :: (nl, W.listOf nm (nn + 1)) :: (E ++ T')) FZ (news_sub NZ ?sub) ?dd ?phi
          case sub =>
            repeat (apply Mine.subC; first | run_tac Mine.memT | focus (repeat' (first | exact List.Mem.head _ | refine List.Mem.tail _ ?_)))
            first | exact Mine.subD 7 rfl | exact Mine.subD 8 rfl | exact Mine.subD 9 rfl | exact Mine.subD 10 rfl | exact Mine.subD 11 rfl | exact Mine.subD 12 rfl | exact Mine.subD 13 rfl | exact Mine.subD 6 rfl | exact Mine.subD 5 rfl | exact Mine.subD 14 rfl | exact Mine.subD 15 rfl | exact Mine.subD 16 rfl | exact Mine.subD 17 rfl | exact Mine.subD 18 rfl | exact Mine.subD 19 rfl | exact Mine.subD 20 rfl
          case dd => exact Mine.fcons (by k_ne) (Mine.fcons (by k_ne) (Mine.fcons (by k_ne) (Mine.fcons (by k_ne) (Mine.fcons (by k_ne) (Mine.fcons (by k_ne) (Mine.fcons (by k_ne) (Mine.fcons (by k_ne) (fun q hq => di q (.tail _ (.tail _ (.tail _ (.tail _ (.tail _ (.tail _ (.tail _ (.tail _ hq))))))))))))))))
          case phi =>
            refine ShI.intro E T' items' (hitems'.push .none) nm nsi' psi' dsi' na (nh + 1) (nn + 1) nsc' npc' nd rd false (-H - 1) ti9 tsd rfl rfl ⟨rfl, rfl, rfl⟩ ⟨w1, w2, w3, w4, w5, w6, w7, w8, w9⟩ ⟨⟨u0, u1, u2, u3, u4, u5⟩, ud, un, ut⟩ ⟨hTt, hlt, hCt, hift, hwft⟩ ⟨?_, hnot.push, ?_, ?_, hfp, hstt⟩ ?_
            · rw [hfold, tsUD (Int.not_le.mpr q1), hcu rfl, ovr0 q1]
              exact hsht
            · simp only [Array.size_push]; omega
            · omega
            · rw [hfold, tsUD (Int.not_le.mpr q1)]
              by_cases q0 : H + 1 = 0
              · have t2 : (H + 1).toNat = 0 := by rw [q0]; rfl
                have t3 : (-(H + 1)).toNat = 0 := by rw [q0]; rfl
                exact .inl ⟨Int.le_of_eq q0.symm, tm_up1 q0, by show nm.size = (H + 1).toNat; omega, fun v hv => by
                  obtain ⟨j, hj, _⟩ := Array.mem_iff_getElem.mp hv
                  exact absurd hj (Nat.not_lt.mpr (Nat.le_trans (m := 0) (by omega) (Nat.zero_le _))), fun q => absurd q (fun c : 0 < H + 1 => Int.lt_irrefl 0 (q0 ▸ c)), by show dsi'.size = (H + 1).toNat + 2; omega, by show psi'.size = (H + 1).toNat + 2; omega, by show (H + 1).toNat + 1 ≤ nsi'.size; omega, by show nsi'.size ≤ (H + 1).toNat + 3; omega⟩
              · exact .inr ⟨tm_up0 q1 q0, tm_upE H, by show nm.size = (-(H + 1)).toNat; omega, fun v hv => q4 v (k2 v hv), rfl, q6, q7, q8, q9⟩
    case done =>
      clear hsh no4 sz4 sz5 st3 v0 v1 v2 v3 v4 v5 sub3 offd3 tab3 hT3 hle3 m1 m2 m3 m4 m5 m6 m7 hsub off offd tab2 hC hif hwf hT2 hle2 lE FL NL hp2 hps2
      rintro m news g h9 tk dr ⟨E, T', items', hitems', names, nsi', psi', dsi', na, nh, nn, nsc', npc', nd, rd, sd, ig, ti, tsd, rfl, rfl, ⟨hm1, hm2, hm3⟩, ⟨w1, w2, w3, w4, w5, w6, w7, w8, w9⟩, ⟨⟨u0, u1, u2, u3, u4, u5⟩, ud, un, ut⟩, ⟨hTt, hlt, hCt, hift, hwft⟩, ⟨hsht, hnot, hzh, hzi, hfp, hstt⟩, hshape⟩ F3 N3
      have e9 : items.size = ps.length := w9.1
      have hk9 := fun q hq => (hCt q (hCE q hq)).elim id (fun y => absurd (hTt.all _ y.1) (by rw [hE q hq]; decide))
      rw [e9, List.take_length] at hsht hshape
      rw [hH] at hshape
      rcases hshape with ⟨q1, rfl, q3, q4, q5, q6, q7, q8, q9⟩ | ⟨q1, _⟩
      case inr => exact absurd q1 (Int.lt_irrefl 0)
      obtain ⟨psi, vp, rfl, p1, p2, p3⟩ := arr_snoc (vs := psi') (k := 1) q7
      obtain rfl := hfp vp p3
      have t1 : Int.toNat 0 = 0 := rfl
      obtain ⟨nsi2, vn, rfl, n1, n2, n3⟩ := arr_snoc1 (vs := nsi') (by omega)
      obtain ⟨dsi, vd, rfl, d1, d2, d3⟩ := arr_snoc (vs := dsi') (k := 1) q6
      clear hE hCE hH hfp hsg q4 q5 hm2 hm3 w8 w9 p2 p3 n2 n3 d2 d3 e9
      have em : m = fun y => if y = Str.ofString "writer" then some (Value.ref x) else m y := by
        funext y
        by_cases e : y = Str.ofString "writer"
        · rw [if_pos e, e]; exact hm1
        · rw [if_neg e]
      rw [em] at F3
      clear em hm1
      dsimp only [StD]
      k_steps
      unfold Stop
      refine' wpAny_call (end_c (tag := Str.ofString "r") (psi := psi) (nsi := nsi2) (dsi := dsi) (items := items') (hitems := hitems') (na := na) (nh := nh) (np := npc') (nn2 := nsc') (nd := nd) (rs := true) (rd := rd) (bf := false) (wt := wtN) (ti := ti) (E := E) (T := T') (C := C) ?cB ?cF ?cX (news_sub N3 ?cN) ?cT ?cf ?ck ?cd ?cu ⟨by first | run_tac Mine.neT | omega, by first | run_tac Mine.neT | omega, by first | run_tac Mine.neT | omega, by first | run_tac Mine.neT | omega, by first | run_tac Mine.neT | omega, by first | run_tac Mine.neT | omega⟩ u1 u2 u3 u4 u5 ud hTt w1 w2 w3 w4 hstt (by first | run_tac Mine.neT | omega) (by first | run_tac Mine.neT | omega) (by first | run_tac Mine.neT | omega) (hCt.use .refl (fun q hq => List.mem_append_left _ hq) (fun q hq => List.mem_append_right _ hq)) hit hift hws hwft (by decide +kernel) (by decide +kernel) (by first | run_tac Mine.neT | omega) (by first | run_tac Mine.neT | omega) ?_)
      case cB => k_asm
      case cF => k_asm
      case cX => k_asm
      case cT => k_asm
      case cf => exact rfl
      case ck => exact rfl
      case cd => (try dsimp only [Around.deeper, Around.in1]); first | exact Nat.lt_of_lt_of_le (by assumption) (by decide) | exact Nat.lt_of_lt_of_le (Nat.succ_lt_succ (by assumption)) (by decide) | exact Nat.lt_of_lt_of_le (Nat.succ_lt_succ (Nat.succ_lt_succ (by assumption))) (by decide) | omega
      case cu => (try dsimp only [Around.deeper, Around.in1]); first | exact Nat.lt_of_lt_of_le (by assumption) (by decide) | exact Nat.lt_of_lt_of_le (Nat.succ_lt_succ (by assumption)) (by decide) | exact Nat.lt_of_lt_of_le (Nat.succ_lt_succ (Nat.succ_lt_succ (by assumption))) (by decide) | omega
      case cN =>
        repeat (apply Mine.subC; first | run_tac Mine.memT | focus (repeat' (first | exact List.Mem.head _ | refine List.Mem.tail _ ?_)))
        first | exact Mine.subD 7 rfl | exact Mine.subD 8 rfl | exact Mine.subD 9 rfl | exact Mine.subD 10 rfl | exact Mine.subD 11 rfl | exact Mine.subD 12 rfl | exact Mine.subD 13 rfl | exact Mine.subD 6 rfl | exact Mine.subD 5 rfl | exact Mine.subD 14 rfl | exact Mine.subD 15 rfl | exact Mine.subD 16 rfl | exact Mine.subD 17 rfl | exact Mine.subD 18 rfl | exact Mine.subD 19 rfl | exact Mine.subD 20 rfl
      intro t9 h9' tk9 b9 g9 ka kb rd9 F9' N9' lt9 bg9 bl9 gl9
      rw [show Str.empty ++ Str.ofString "</" ++ Str.ofString "r" ++ Str.ofString ">" = ("</r>" : Str) by decide +kernel] at bg9
      have hno9 : ∀ v ∈ (hitems'.push .none).push .none, v = .none := hnot.push.push
      have hnz9 : ((hitems'.push .none).push .none).size ≤ 100 := by rw [Array.size_push, Array.size_push]; omega
      replace lt9 := allLt_of lt9
      simp only [AllLt, List.cons_append] at lt9
      clear F3 N3 hstt hnot
      dsimp only
      k_steps
      rename_i D1 h11 tk11 o11 D2 h12 F12 N12 l12 kF kN Tc kX
      refine h D2 h12 _ dr a dxS D1 (items'.push (.ref t9)) (na + 1) 0 ((t9, tupO [.str b9 ka, .str g9 kb]) :: E) T' tkS t0S kF (news_sub kN ?sub) (.tail _ w1) (fun q hq => .tail _ (hk9 q hq)) (Mine.fcons rfl ut) hTt ?sht ?sz
      case sub =>
        repeat (apply Mine.subC; first | run_tac Mine.memT | focus (repeat' (first | exact List.Mem.head _ | refine List.Mem.tail _ ?_)))
        first | exact Mine.subD 7 rfl | exact Mine.subD 8 rfl | exact Mine.subD 9 rfl | exact Mine.subD 10 rfl | exact Mine.subD 11 rfl | exact Mine.subD 12 rfl | exact Mine.subD 13 rfl | exact Mine.subD 6 rfl | exact Mine.subD 5 rfl | exact Mine.subD 14 rfl | exact Mine.subD 15 rfl | exact Mine.subD 16 rfl | exact Mine.subD 17 rfl | exact Mine.subD 18 rfl | exact Mine.subD 19 rfl | exact Mine.subD 20 rfl
      case sht =>
        rw [show 3 + cnt3 ps = 2 + cnt3 ps + 1 from Nat.add_right_comm 2 1 (cnt3 ps)]
        exact hsht.push (fun q hq => .tail _ hq) (Piece.intro (.head _) bg9 bl9 gl9)
      case sz => rw [Array.size_push]; omega
  case zfin => run_tac Mine.sq
end Mine

theorem Mine.use_M89d : True := by
  w_top off
  run_tac Mine.use ["linesP", "linesZZ"]
  trivial
namespace Mine
theorem psOf_map {bs : List Bool} (hbl : bs.length = 11) : (psOf bs).map Prod.fst = bs := List.map_fst_zip (by rw [hbl]; decide)
noncomputable def pathOf (bs : List Bool) (k : Nat) : List (Bool × Str) := (psOf bs).drop (k + 1) ++ (psOf bs).take k
theorem pathOf_map {bs : List Bool} (hbl : bs.length = 11) (k : Nat) : (pathOf bs k).map Prod.fst = bs.drop (k + 1) ++ bs.take k := by
  unfold pathOf
  rw [List.map_append, List.map_drop, List.map_take, psOf_map hbl]
theorem path_ok {bs : List Bool} (hbl : bs.length = 11) (hbc : bs.count true = 6) {r : Nat} (hr : r < 6) (t : Str) :
    ((pathOf bs ((rowF (psOf bs) 11).getD r 0)).foldl toldStep (t, 0)).2 = 0 ∧ 3 + cnt3 (pathOf bs ((rowF (psOf bs) 11).getD r 0)) = 23 - 4 * r := by
  refine @Mine.sqz _ ?zmain ?zfin
  case zmain =>
    have ok := plain_ok hbl hbc
    have hm : (rowF (psOf bs) 11).getD r 0 ∈ rowF (psOf bs) 11 := by
      have := ok.len
      rw [List.getD_eq_getElem?_getD, List.getElem?_eq_getElem (by omega)]
      exact List.getElem_mem _
    have hlt := ok.lt _ hm
    have hup := rowF_up' hbl hm
    have hc := ok.cnt r hr
    generalize (rowF (psOf bs) 11).getD r 0 = k at *
    have hz := floor_end hbl hbc hlt hup
    refine ⟨by rw [told_hend, pathOf_map hbl, hz], ?_⟩
    unfold cnt3
    have h2 := ovr_dwn (bs.drop (k + 1) ++ bs.take k) 0
    rw [hz] at h2
    rw [pathOf_map hbl]
    omega
  case zfin => run_tac Mine.sq
theorem psOf_len {bs : List Bool} (hbl : bs.length = 11) : (psOf bs).length = 11 := by
  unfold psOf
  rw [List.length_zip, hbl]
  decide
theorem pathOf_len {bs : List Bool} (hbl : bs.length = 11) {k : Nat} (hk : k < 11) : (pathOf bs k).length = 10 := by
  unfold pathOf
  rw [List.length_append, List.length_drop, List.length_take, psOf_len hbl]
  omega
theorem psOf_sign {bs : List Bool} : ∀ q ∈ psOf bs, q.2 ∈ signs := fun q hq => (List.of_mem_zip hq).2
theorem pathOf_sign {bs : List Bool} {k : Nat} : ∀ q ∈ pathOf bs k, q.2 ∈ signs := by
  intro q hq
  rcases List.mem_append.mp hq with h | h
  · exact psOf_sign q (List.mem_of_mem_drop h)
  · exact psOf_sign q (List.mem_of_mem_take h)
theorem pathIs_mid {rest : List (Addr × Obj)} {items : Array Value} {bs : List Bool} {k : Nat} (hbl : bs.length = 11) (h : PathIs rest items (psOf bs)) (hk : k < 11) : PathIs rest ((items.toList.drop (k + 1)).toArray ++ (items.toList.take k).toArray) (pathOf bs k) := by
  refine @Mine.sqz _ ?zmain ?zfin
  case zmain =>
    have hz : items.toList.length = 11 := by rw [Array.length_toList, h.1, psOf_len hbl]
    refine ⟨?_, fun i p e => ?_⟩
    · rw [pathOf_len hbl hk, Array.size_append]
      show (items.toList.drop (k + 1)).length + (items.toList.take k).length = 10
      rw [List.length_drop, List.length_take, hz]; omega
    · unfold pathOf at e
      have e2 : ((items.toList.drop (k + 1)).toArray ++ (items.toList.take k).toArray)[i]? = (items.toList.drop (k + 1) ++ items.toList.take k)[i]? := by simp
      have hl : (List.drop (k + 1) (psOf bs)).length = (List.drop (k + 1) items.toList).length := by rw [List.length_drop, List.length_drop, psOf_len hbl, hz]
      by_cases q : i < (items.toList.drop (k + 1)).length
      · rw [List.getElem?_append_left (by rw [hl]; exact q), List.getElem?_drop] at e
        obtain ⟨t, tb, ts, y1, y2⟩ := h.2 _ p e
        refine ⟨t, tb, ts, ?_, y2⟩
        rw [e2, List.getElem?_append_left q, List.getElem?_drop, ← y1]; simp
      · rw [List.getElem?_append_right (by rw [hl]; omega), hl, List.getElem?_take] at e
        split at e
        · obtain ⟨t, tb, ts, y1, y2⟩ := h.2 _ p e
          refine ⟨t, tb, ts, ?_, y2⟩
          rw [e2, List.getElem?_append_right (by omega), List.getElem?_take, if_pos (by assumption), ← y1]; simp
        · cases e
  case zfin => run_tac Mine.sq
end Mine

theorem Mine.use_M92 : True := by
  w_top off
  run_tac Mine.use ["linesP", "linesZZ"]
  trivial
namespace Mine
/-- the law's end: the answer True, the heap kept, the tables grown -/
theorem postB {M : Model} {A : Around} {cd : Code} {s s₁ : Shared} {cw : ClaimW} {cl : Str → Option Addr} {mean : ExcName → Option Value} {args : List WData} {tabs : List (Addr × Addr)} (hT : TabsAt tabs s₁.heap) (hr : ∀ a x, cw.raises a x = false) (hp : cw.post args (.bool true) args = true)
    (h : codeAny M A cd (fun r s' => r = .ok (.ret (.bool true)) ∧ (∀ b o, (ghostOf s₁.heap tabs).get? b = some o → s'.heap.get? b = some o) ∧ s'.os = s₁.os ∧ AllBare s'.gens ∧ ∀ q ∈ tabs, GrownAt q.2 s'.heap) s) : codeAny M A cd (GoodWG cw cl mean args s₁) s :=
  codeAny_mono h fun r s' ⟨hr1, hk, hos, hg, hgr⟩ => by
    have grown : ∀ b o, b ∈ tabs.map (·.2) → s₁.heap.get? b = some o → isCodeTable s₁.heap b ∧ o = tabObj #[] ∧ GrownAt b s'.heap := by
      intro b o hb e
      obtain ⟨q, hq, rfl⟩ := List.mem_map.mp hb
      have t := hT q hq
      exact ⟨(t.1.tab t.2).isCodeTable, Option.some.inj (e.symm.trans t.2), hgr q hq⟩
    refine ⟨.inl ⟨_, .bool true, [], hr1, hr args, .bool true, hp, fun _ => ⟨List.nodup_nil, fun _ h => nomatch h⟩⟩, ⟨fun b o e => ?_, fun b o e => ?_⟩, hos, hg⟩
    · by_cases hb : b ∈ tabs.map (·.2)
      · obtain ⟨ht, rfl, ps, hP⟩ := grown b o hb e
        exact .inr (.inl ⟨ht, rfl, #[], ps, rfl, by rw [Array.empty_append]; exact hP⟩)
      · exact .inl (hk b o (ghost_ne e hb))
    · by_cases hb : b ∈ tabs.map (·.2)
      · obtain ⟨_, _, ps, hP⟩ := grown b o hb e
        exact ⟨_, hP⟩
      · exact ⟨o, hk b o (ghost_ne e hb)⟩
end Mine

theorem Mine.use_M92b : True := by
  w_top off
  run_tac Mine.use ["linesP", "linesZZ"]
  trivial
namespace Mine
noncomputable abbrev tabs0 : List (Addr × Obj) := [(107, tabObj #[]), (114, tabObj #[]), (234, tabObj #[]), (296, tabObj #[]), (291, tabObj #[]), (286, tabObj #[])]
theorem tabs0_ok : Tabs tabs0 := by
  refine @Mine.sqz _ ?zmain ?zfin
  case zmain =>
    have hm : ∀ q ∈ tabList, (q.1, tabObj #[]) ∈ tabs0 := by
      refine List.forall_mem_cons.mpr ⟨.head _, List.forall_mem_cons.mpr ⟨.tail _ (.head _), List.forall_mem_cons.mpr ⟨.tail _ (.tail _ (.head _)), List.forall_mem_cons.mpr ⟨.tail _ (.tail _ (.tail _ (.head _))), List.forall_mem_cons.mpr ⟨.tail _ (.tail _ (.tail _ (.tail _ (.head _)))), List.forall_mem_cons.mpr ⟨.tail _ (.tail _ (.tail _ (.tail _ (.tail _ (.head _))))), fun _ h => nomatch h⟩⟩⟩⟩⟩⟩
    exact ⟨by decide, fun q hq => ⟨#[], hm q hq, trivial, fun _ _ e => by cases e⟩⟩
  case zfin => run_tac Mine.sq
end Mine

theorem Mine.use_M34b : True := by
  w_top off
  run_tac Mine.use ["linesP", "lines", "clines", "linesZZ"]
  trivial
namespace Mine
theorem popfrom0_c {w : World} {A₀ : Around} {base h₀ : Heap} {outer : List Env} {env : Env} {L : Addr} {m : Str → Option Value} {s : Shared} {lo me} {mg mb} {R : Result → Shared → Prop} {d u : Nat} {gd : Option (List Code)}
 {a dx : Addr} {items : Array Value} {n : Nat} {ti : Tok} {iv : Value} {rest : List (Addr × Obj)}
 (B : Below A₀ base outer h₀) (F : Fr h₀ L s.heap m) (X : (Mine.hd.heap_39 w.params).In h₀) (N : News h₀ L s.heap ((a, accO dx items n) :: rest)) (T : Top topProg lo me mg mb h₀) (hf : env.frame = some L) (hke : env.scope.kind = .function) (hd : d < 800) (hu : u < 800)
 (hdx : (dx, iniD w ti iv) ∈ rest) (ha : ∀ p ∈ rest, p.1 ≠ a) (hz : items.size ≤ 100)
 (h : ∀ l h' tk' n1 n2, Fr h₀ L h' m → News h₀ L h' ((l, listOf items n1) :: (a, accO dx #[] n2) :: rest) → (∀ p ∈ (a, accO dx items n) :: rest, p.1 < l) → R (.ok (.ret (.ref l))) (St s h' s.gens tk')) :
 codeAny (model Challenge.rw_if0017_01.row.prog w) (Around.mk none d (some (env :: outer)) gd u) (.call (.ref 97) ⟨[.ref a], []⟩) R s := by
  refine @Mine.sqz _ ?zmain ?zfin
  case zmain =>
    have he : items.extract 0 (sliceBounds (some (0 : Int)) none none items.size).1.toNat ++ #[] ++ items.extract (max (sliceBounds (some (0 : Int)) none none items.size).1 (sliceBounds (some (0 : Int)) none none items.size).2.1).toNat items.size = #[] := by
      have e1 : (sliceBounds (some (0 : Int)) none none items.size).1.toNat = 0 := by simp [sliceBounds]; omega
      have e2 : (max (sliceBounds (some (0 : Int)) none none items.size).1 (sliceBounds (some (0 : Int)) none none items.size).2.1).toNat = items.size := by simp [sliceBounds]; omega
      rw [e1, e2]
      simp
    revert X; k_fill; intro X
    k_data
    k_steps
    have hp : slicePick items (some (0 : Int)) none none = items := (slicePick_from items 0 (Nat.zero_le _)).trans (by simp)
    rename_i kF kN Tc kX
    rw [hp] at kN
    exact h _ _ _ _ _ kF (News.tail' kN) (allLt_mem (by assumption))
  case zfin => run_tac Mine.sq
end Mine

theorem Mine.use_M92c : True := by
  w_top off
  run_tac Mine.use ["linesP", "linesZZ"]
  trivial
namespace Mine
/-- a part of the ledger that holds tuples alone -/
noncomputable def AllTup (E : List (Addr × Obj)) : Prop := ∀ q ∈ E, ∃ vs, q.2 = tupO vs
theorem AllTup.tab {E : List (Addr × Obj)} (h : AllTup E) : ∀ q ∈ E, isTabE q.2 = false := fun q hq => by obtain ⟨vs, e⟩ := h q hq; rw [e]; rfl
theorem AllTup.apart {h₀ h : Heap} {L : Addr} {E news : List (Addr × Obj)} (hE : AllTup E) (N : News h₀ L h news) (k : ∀ q ∈ E, q ∈ news) {a : Addr} {o : Obj} (ha : (a, o) ∈ news) (hn : o.cls ≠ .type "tuple") : ∀ q ∈ E, q.1 ≠ a := by
  rintro ⟨b, ob⟩ hq rfl
  obtain ⟨vs, e⟩ := hE _ hq
  have := news_same N (k _ hq) ha
  rw [← this] at hn
  exact hn (congrArg Obj.cls e)
theorem cell_cls {h : Heap} {o : Obj} {v : Option Value} (hd : o.data = .cell v) : isTabE o = false := isTabE_cell hd
theorem AllTup.apartD {h₀ h : Heap} {L : Addr} {E news : List (Addr × Obj)} (hE : AllTup E) (N : News h₀ L h news) (k : ∀ q ∈ E, q ∈ news) {a : Addr} {o : Obj} (ha : (a, o) ∈ news) (hn : ∀ vs n, o.data ≠ .seq vs n) : ∀ q ∈ E, q.1 ≠ a := by
  rintro ⟨b, ob⟩ hq rfl
  obtain ⟨vs, e⟩ := hE _ hq
  have := news_same N (k _ hq) ha
  rw [← this] at hn
  exact hn _ _ (congrArg Obj.data e)
theorem law_pack {g h : Heap} {L p : Addr} {oA oB : Obj} {vA vB : Option Value} {np : Nat} {ys : Array Value} {nw T : List (Addr × Obj)} {ps : List (Bool × Str)}
  (N : News g L h ((p, W.listOf ys np) :: nw)) (sub : ∀ q ∈ (L + 1 + 1, oB) :: (L + 1, oA) :: T, q ∈ nw) (hps : PathIs nw ys ps) (hA : oA.data = .cell vA) (hB : oB.data = .cell vB) :
  ∃ E0, AllTup E0 ∧ PathIs E0 ys ps ∧ (∀ q ∈ E0, q.1 ≠ p) ∧ (∀ q ∈ E0, q.1 ≠ L + 1) ∧ (∀ q ∈ E0, q.1 ≠ L + 1 + 1) ∧ p ≠ L + 1 ∧ p ≠ L + 1 + 1 ∧ News g L h ((p, W.listOf ys np) :: (L + 1 + 1, oB) :: (L + 1, oA) :: (E0 ++ T)) := by
  refine @Mine.sqz _ ?zmain ?zfin
  case zmain =>
    have hk : ∀ q ∈ nw.filter (fun q : Addr × Obj => @decide (∃ vs, q.2 = tupO vs) (Classical.propDecidable _)), q ∈ nw := fun q hq => (List.mem_filter.mp hq).1
    have ht : AllTup (nw.filter (fun q : Addr × Obj => @decide (∃ vs, q.2 = tupO vs) (Classical.propDecidable _))) := by
      intro q hq
      exact @of_decide_eq_true _ (Classical.propDecidable _) (List.mem_filter.mp hq).2
    have kk : ∀ q ∈ nw.filter (fun q : Addr × Obj => @decide (∃ vs, q.2 = tupO vs) (Classical.propDecidable _)), q ∈ (p, W.listOf ys np) :: nw := fun q hq => .tail _ (hk q hq)
    have mB := List.Mem.tail (p, W.listOf ys np) (sub _ (.head _))
    have mA := List.Mem.tail (p, W.listOf ys np) (sub _ (.tail _ (.head _)))
    refine ⟨_, ht, ⟨hps.1, fun i q e => ?_⟩, ht.apart N kk (.head _) (by intro e; injection e with e; exact absurd e (by decide)), ht.apartD N kk mA (by intro vs n e; rw [hA] at e; cases e), ht.apartD N kk mB (by intro vs n e; rw [hB] at e; cases e), ?_, ?_, news_sub N fun q hq => ?_⟩
    · obtain ⟨t, tb, ts, y1, y2⟩ := hps.2 i q e
      exact ⟨t, tb, ts, y1, List.mem_filter.mpr ⟨y2, @decide_eq_true _ (Classical.propDecidable _) ⟨_, rfl⟩⟩⟩
    · rintro rfl
      have := news_same N (.head _) mA
      rw [← this] at hA; cases hA
    · rintro rfl
      have := news_same N (.head _) mB
      rw [← this] at hB; cases hB
    · rcases List.mem_cons.mp hq with rfl | hq
      · exact .head _
      rcases List.mem_cons.mp hq with rfl | hq
      · exact mB
      rcases List.mem_cons.mp hq with rfl | hq
      · exact mA
      rcases List.mem_append.mp hq with hq | hq
      · exact kk _ hq
      · exact .tail _ (sub _ (.tail _ (.tail _ hq)))
  case zfin => run_tac Mine.sq
end Mine

theorem Mine.use_M92d : True := by
  w_top off
  run_tac Mine.use ["linesP", "linesZZ"]
  trivial
namespace Mine
open PyProof.Rows.LCg PyProof.Rows.LCp in
/-- [blank for blank, sign in steps] -/
theorem blank_rest {prog : Program} {w : World} {A : Around} {s : Shared} {h₀ : Heap} {L : Addr} {m : Str → Option Value} {env : Env} {x x₂ : Str} {p1 : Pos} {scope : Scope} {cl : List (Str × Addr)} {S : List (Addr × Obj) → Prop} {Fin : List Value → List (Addr × Obj) → Prop} {its : Array Value} {news : List (Addr × Obj)} {ps : List (Bool × Str)}
  (hk : ∀ C, (compEnvC scope cl C env).scope.kind = .function) (hl : ∀ C, (compEnvC scope cl C env).kindOf x = some .local) (hx : (x == ("__debug__" : Str)) = false) (hps : PathIs news its ps) (hS : S news)
  (hfin : ∀ ys : List Value, ys.length = ps.length → (∀ (i : Nat) (p : Bool × Str), ps[i]? = some p → ∃ t, ys[i]? = some (Value.str (blk p.1) t)) → Fin ys news) :
  ∀ k i (ys : List Value), i + k = ps.length → ys.length = i → (∀ (j : Nat) (p : Bool × Str), j < i → ps[j]? = some p → ∃ t, ys[j]? = some (Value.str (blk p.1) t)) → CompRestP prog w A h₀ L m env (.Name x p1) x x₂ scope cl s S (fun i v => its[i]? = some v) Fin k i ys news
  | 0, i, ys, e, el, ea => CompRestP.zero (hfin ys (by omega) fun j p ej => ea j p (by have := (List.getElem?_eq_some_iff.mp ej).1; omega) ej)
  | k + 1, i, ys, e, el, ea => CompRestP.succ fun v hv => by
    have hi : i < ps.length := by omega
    obtain ⟨t, tb, ts, y1, y2⟩ := hps.2 i ps[i] (List.getElem?_eq_getElem hi)
    obtain rfl : v = .ref t := Option.some.inj (hv.symm.trans y1)
    refine ⟨t, _, _, _, _, rfl, y2, rfl, rfl, ?_⟩
    intro I oI C oC D m₂ h tk E' hC hx1 hx2 F N off ne
    refine LCgL.ld_own N (.tail _ (.head _)) hC hx1 ?_ (hk C) (hl C) hx
    refine ⟨h, tk, news, rfl, F, N, off, hS, blank_rest hk hl hx hps hS hfin k (i + 1) _ (by omega) (by rw [List.length_append, el]; rfl) fun j p hj ej => ?_⟩
    by_cases q : j < i
    · obtain ⟨u, hu⟩ := ea j p q ej
      exact ⟨u, by rw [List.getElem?_append_left (by omega)]; exact hu⟩
    · obtain rfl : j = i := by omega
      refine ⟨tb, ?_⟩
      rw [List.getElem?_append_right (by omega), el, Nat.sub_self]
      rw [List.getElem?_eq_getElem hi] at ej
      rw [← Option.some.inj ej]; rfl
open PyProof.Rows.LCg in
/-- [heights[k] for k in row] -/
theorem pick_rest {prog : Program} {w : World} {A : Around} {s : Shared} {h₀ : Heap} {L : Addr} {m : Str → Option Value} {env : Env} {x y : Str} {p1 p2 p3 : Pos} {scope : Scope} {cl : List (Str × Addr)} {S : List (Addr × Obj) → Prop} {Fin : List Value → List (Addr × Obj) → Prop} {its items : Array Value} {ks : List Nat} {Hs : List Int} {news : List (Addr × Obj)} {c1 hl : Addr} {o1 : Obj} {n : Nat}
  (hk : ∀ C, (compEnvC scope cl C env).scope.kind = .function) (hx : ∀ C, (compEnvC scope cl C env).kindOf x = some .local) (hy : ∀ C, (compEnvC scope cl C env).kindOf y = some .cell) (bx : (x == ("__debug__" : Str)) = false) (bY : (y == ("__debug__" : Str)) = false)
  (hcy : cl.lookup y = some c1) (m1 : (c1, o1) ∈ news) (d1 : o1.data = .cell (some (.ref hl))) (hli : (hl, W.listOf items n) ∈ news) (hI : IntsIn items Hs) (hlt : ∀ k ∈ ks, k < Hs.length) (hdom : Hs.length ≤ 100)
  (hS : S news) (hks : NatsIn its ks) (hfin : ∀ ys : List Value, IntsIn ys.toArray (ks.map fun k => Hs.getD k 0) → Fin ys news) :
  ∀ k i (ys : List Value), i + k = ks.length → IntsIn ys.toArray ((ks.take i).map fun k => Hs.getD k 0) → CompRest prog w A h₀ L m env (.Subscript (.Name y p1) (.Name x p2) p3) x scope cl s S (fun i v => its[i]? = some v) Fin k i ys news
  | 0, i, ys, e, el => CompRest.zero (hfin ys (by rw [List.take_of_length_le (by omega)] at el; exact el))
  | k + 1, i, ys, e, el => CompRest.succ fun v I oI C oC D m₂ h tk E' hP hC hx2 F N off ne => by
    have hi : i < ks.length := by omega
    obtain ⟨tv, e2⟩ := hks.2 i ks[i] (List.getElem?_eq_getElem hi)
    have hv1 : v = .int (ks[i] : Nat) tv := Option.some.inj (hP.symm.trans e2)
    subst hv1
    have hkd := hlt _ (List.getElem_mem hi)
    obtain ⟨tx, hxx⟩ := hI.2 ks[i] _ (List.getElem?_eq_getElem hkd)
    have hsz := hI.1
    have hxx : items[((ks[i] : Nat) : Int).toNat]? = some (.int Hs[ks[i]] tx) := by rw [Int.toNat_natCast]; exact hxx
    have tl : ∀ {q : Addr × Obj}, q ∈ news → q ∈ (I, oI) :: (C, oC) :: (D, lst ys) :: news := fun hq => .tail _ (.tail _ (.tail _ hq))
    have htk : ks.take (i + 1) = ks.take i ++ [ks[i]] := by rw [List.take_add_one, List.getElem?_eq_getElem hi]; rfl
    refine Subscript_ (lcf_cell N hcy (tl m1) d1 (LCgL.ld_own N (.tail _ (.head _)) hC hx2 (PyProof.Rows.item_list (News.isList N (tl hli)) (by omega) (by omega) hxx ?_) (hk C) (hx C) bx) (hk C) (hy C) bY)
    refine ⟨h, tk, news, rfl, F, N, off, hS, pick_rest hk hx hy bx bY hcy m1 d1 hli hI hlt hdom hS hks hfin k (i + 1) _ (by omega) ?_⟩
    rw [htk, List.map_append, List.map_cons, List.map_nil]
    have hz : ys.length = ((ks.take i).map fun k => Hs.getD k 0).length := el.1
    refine ⟨by show (ys ++ _).length = _; rw [List.length_append, List.length_append, hz]; rfl, fun j z ej => ?_⟩
    by_cases q : j < ((ks.take i).map fun k => Hs.getD k 0).length
    · rw [List.getElem?_append_left q] at ej
      obtain ⟨u, hu⟩ := el.2 j z ej
      refine ⟨u, ?_⟩
      rw [List.getElem?_toArray] at hu ⊢
      rw [List.getElem?_append_left (by omega)]; exact hu
    · rw [List.getElem?_append_right (by omega)] at ej
      have hj : j - ((ks.take i).map fun k => Hs.getD k 0).length = 0 := by
        have := (List.getElem?_eq_some_iff.mp ej).1
        rw [List.length_singleton] at this; omega
      rw [hj] at ej
      have ez : Hs.getD ks[i] 0 = z := Option.some.inj ej
      refine ⟨tx, ?_⟩
      rw [List.getElem?_toArray, List.getElem?_append_right (by omega), hz, hj, ← ez, List.getD_eq_getElem?_getD, List.getElem?_eq_getElem hkd]; rfl
section
open PyProof.Rows.LCg
variable {prog : Program} {w : World} {A : Around} {h₀ : Heap} {L : Addr} {m : Str → Option Value} {env : Env}
/-- the end of a turn that gives an int -/
noncomputable def ITurn (h₀ : Heap) (L : Addr) (m : Str → Option Value) (s₁ : Shared) (I C D : Addr) (oI oC oD : Obj) (news : List (Addr × Obj)) (v : Int) (y : Value) (s₂ : Shared) : Prop :=
  ∃ h' tk' t, y = .int v t ∧ s₂ = { s₁ with heap := h', toks := tk' } ∧ Fr h₀ L h' m ∧ News h₀ L h' ((I, oI) :: (C, oC) :: (D, oD) :: news)
theorem range_rest {elt : Expr} {x : Str} {scope : Scope} {cl : List (Str × Addr)} {s₁ : Shared} {news : List (Addr × Obj)} {f : Nat → Int} {Fin : List Value → List (Addr × Obj) → Prop} {n : Nat}
    (turn : ∀ i, i < n → ∀ I C D (oI oC oD : Obj) m₂ h tk t (E' : Value → Shared → Prop), NsObj oC m₂ → m₂ x = some (.int (i : Nat) t) → Fr h₀ L h m → News h₀ L h ((I, oI) :: (C, oC) :: (D, oD) :: news) → Off3 I C D news → ((@Ne Nat I C) ∧ (@Ne Nat I D) ∧ (@Ne Nat C D)) →
      wpAny (model prog w) A (eval elt (compEnvC scope cl C env)) (ITurn h₀ L m s₁ I C D oI oC oD news (f i)) E' { s₁ with heap := h, toks := tk })
    (hfin : ∀ ys : List Value, IntsIn ys.toArray ((List.range n).map f) → Fin ys news) :
    ∀ k i (ys : List Value), i + k = n → IntsIn ys.toArray ((List.range i).map f) → CompRest prog w A h₀ L m env elt x scope cl s₁ (fun _ => True) (fun i v => ∃ t, v = .int (0 + (i : Int)) t) Fin k i ys news
  | 0, i, ys, e, el => CompRest.zero (hfin ys (by rw [show n = i by omega]; exact el))
  | k + 1, i, ys, e, el => CompRest.succ fun v I oI C oC D m₂ h tk E' hP hC hx2 F N off ne => by
    obtain ⟨tv, rfl⟩ := hP
    rw [Int.zero_add] at hx2
    refine wpAny_mono (turn i (by omega) I C D oI oC _ m₂ h tk tv E' hC hx2 F N off ne) (fun y s4 h4 => ?_) fun _ _ e => e
    obtain ⟨h', tk', t, rfl, rfl, F4, N4⟩ := h4
    refine ⟨h', tk', news, rfl, F4, N4, off, trivial, range_rest turn hfin k (i + 1) _ (by omega) ?_⟩
    have hz : ys.length = i := by have := el.1; simp only [List.length_map, List.length_range] at this; exact this
    rw [List.range_succ, List.map_append, List.map_cons, List.map_nil]
    refine ⟨by show (ys ++ _).length = _; rw [List.length_append, List.length_append, hz, List.length_map, List.length_range]; rfl, fun j z ej => ?_⟩
    by_cases q : j < i
    · rw [List.getElem?_append_left (by rw [List.length_map, List.length_range]; exact q)] at ej
      obtain ⟨u, hu⟩ := el.2 j z ej
      refine ⟨u, ?_⟩
      rw [List.getElem?_toArray] at hu ⊢
      rw [List.getElem?_append_left (by omega)]; exact hu
    · have hj : j = i := by
        have := (List.getElem?_eq_some_iff.mp ej).1
        rw [List.length_append, List.length_map, List.length_range, List.length_singleton] at this; omega
      subst hj
      rw [List.getElem?_append_right (by rw [List.length_map, List.length_range]; exact Nat.le_refl _), List.length_map, List.length_range, Nat.sub_self] at ej
      have ez : f j = z := Option.some.inj ej
      refine ⟨t, ?_⟩
      rw [List.getElem?_toArray, List.getElem?_append_right (by omega), hz, Nat.sub_self, ez]; rfl
end
section
variable {prog : Program} {w : World} {A : Around} {E : Value → Shared → Prop} {s : Shared} {l b : Addr} {items items2 : Array Value} {ns : List Int} {Q : Value → Shared → Prop}
theorem ints_are : ∀ {vs : List Value} {ns : List Int}, IntsIn vs.toArray ns → IntsAre vs ns
  | [], [], _ => .nil
  | [], _ :: _, h => by cases h.1
  | _ :: _, [], h => by cases h.1
  | v :: vs, x :: ns, h => by
    obtain ⟨t, e⟩ := h.2 0 x rfl
    obtain rfl : v = .int x t := Option.some.inj e
    exact .cons _ _ (ints_are ⟨Nat.succ.inj h.1, fun i k e => by obtain ⟨t, e⟩ := h.2 (i + 1) k e; exact ⟨t, by rw [List.getElem?_toArray] at e ⊢; exact e⟩⟩)
theorem ints_ne (hl : s.heap.IsList l items) (hb : s.heap.IsList b items2) (h1 : IntsIn items ns) (h2 : IntsIn items2 ns) (hu : A.units < 900) (h : Q (.bool false) s) : wpAny (model prog w) A (compareOp .NotEq (.ref l) (.ref b)) Q E s := by
  refine @Mine.sqz _ ?zmain ?zfin
  case zmain =>
    obtain ⟨vs⟩ := items
    obtain ⟨us⟩ := items2
    refine ke_ne_ints hl hb (ints_are h1) (ints_are h2) (Nat.lt_of_lt_of_le (Nat.add_lt_add_right hu 64) (Nat.le_of_ble_eq_true rfl)) ?_
    rw [decide_eq_true rfl]; exact h
  case zfin => run_tac Mine.sq
theorem ints_eq (hl : s.heap.IsList l items) (hb : s.heap.IsList b items2) (h1 : IntsIn items ns) (h2 : IntsIn items2 ns) (hu : A.units < 900) (h : Q (.bool true) s) : wpAny (model prog w) A (compareOp .Eq (.ref l) (.ref b)) Q E s := by
  refine @Mine.sqz _ ?zmain ?zfin
  case zmain =>
    obtain ⟨vs⟩ := items
    obtain ⟨us⟩ := items2
    refine ke_eq_ints hl hb (ints_are h1) (ints_are h2) (Nat.lt_of_lt_of_le (Nat.add_lt_add_right hu 64) (Nat.le_of_ble_eq_true rfl)) ?_
    rw [decide_eq_true rfl]; exact h
  case zfin => run_tac Mine.sq
end
end Mine

theorem Mine.use_M92e : True := by
  w_top off
  run_tac Mine.use ["linesP", "linesZZ"]
  trivial
namespace Mine
theorem pick_take (l : List Value) (i : Nat) : kms_pick l none (some (i : Int)) = l.take i := by
  refine @Mine.sqz _ ?zmain ?zfin
  case zmain =>
    unfold kms_pick kms_lo kms_hi
    dsimp only
    rw [if_neg (by omega), List.drop_zero, Int.toNat_natCast, Nat.sub_zero]
    by_cases h : i ≤ l.length
    · rw [Nat.min_eq_left h]
    · rw [Nat.min_eq_right (by omega), List.take_length, List.take_of_length_le (by omega)]
  case zfin => run_tac Mine.sq
theorem pick_take1 (l : List Value) (i : Nat) : kms_pick l none (some ((i : Int) + 1)) = l.take (i + 1) := pick_take l (i + 1)
theorem pick_drop (l : List Value) (i : Nat) : kms_pick l (some (i : Int)) none = l.drop i := by
  refine @Mine.sqz _ ?zmain ?zfin
  case zmain =>
    unfold kms_pick kms_lo kms_hi
    dsimp only
    rw [if_neg (by omega), Int.toNat_natCast]
    by_cases h : i ≤ l.length
    · rw [Nat.min_eq_left h, List.take_of_length_le (by rw [List.length_drop]; exact Nat.le_refl _)]
    · rw [Nat.min_eq_right (by omega), List.drop_length, List.drop_of_length_le (by omega)]
      exact List.take_nil
  case zfin => run_tac Mine.sq
theorem pick_drop1 (l : List Value) (i : Nat) : kms_pick l (some ((i : Int) + 1)) none = l.drop (i + 1) := pick_drop l (i + 1)
end Mine

theorem Mine.use_M92f : True := by
  w_top off
  run_tac Mine.use ["linesP", "linesZZ"]
  trivial
namespace Mine
theorem blanks_are : ∀ (ps : List (Bool × Str)) (ys : List Value), ys.length = ps.length → (∀ (i : Nat) (p : Bool × Str), ps[i]? = some p → ∃ t, ys[i]? = some (Value.str (blk p.1) t)) → StrsAre ys ((ps.map Prod.fst).map blk)
  | [], [], _, _ => .nil
  | [], _ :: _, hz, _ => by cases hz
  | _ :: _, [], hz, _ => by cases hz
  | p :: ps, y :: ys, hz, h => by
    obtain ⟨t, e⟩ := h 0 p rfl
    obtain rfl : y = Value.str (blk p.1) t := Option.some.inj e
    exact .cons _ _ (blanks_are ps ys (Nat.succ.inj hz) fun i q e => h (i + 1) q e)
theorem strs_take : ∀ {vs : List Value} {xs : List Str}, StrsAre vs xs → ∀ j, StrsAre (vs.take j) (xs.take j)
  | _, _, _, 0 => by rw [List.take_zero, List.take_zero]; exact .nil
  | _, _, .nil, _ + 1 => .nil
  | _, _, .cons y t r, j + 1 => .cons y t (strs_take r j)
theorem blk_is : ∀ b : Bool, (blk b == Str.ofString " ") = b
  | true => by decide +kernel
  | false => by decide +kernel
theorem cnt_blk : ∀ {vs : List Value} {bs : List Bool}, StrsAre vs (bs.map blk) → vs.countP (isStrOf (Str.ofString " ")) = bs.count true
  | _, [], .nil => rfl
  | _, b :: bs, .cons _ t r => by
    rw [List.countP_cons, cnt_blk r, List.count_cons]
    show _ + (if (blk b == Str.ofString " ") = true then 1 else 0) = _
    rw [blk_is]
    cases b <;> rfl
section
variable {prog : Program} {w : World} {A : Around} {E : Value → Shared → Prop} {s : Shared} {l : Addr} {ys : List Value} {bs : List Bool} {j : Nat} {t : Tok} {Q : Value → Shared → Prop}
theorem count_blanks (hl : s.heap.IsList l (ys.take j).toArray) (hbl : bs.length = 11) (hz : ys.length = (psOf bs).length) (hq : ∀ (i : Nat) (p : Bool × Str), (psOf bs)[i]? = some p → ∃ t, ys[i]? = some (Value.str (blk p.1) t))
    (h : Q (.int (((bs.take j).count true : Nat) : Int) s.toks) { s with toks := s.toks + 1 }) : wpAny (model prog w) A (call (.builtin "list.count") [.ref l, .str (Str.ofString " ") t]) Q E s := by
  refine @Mine.sqz _ ?zmain ?zfin
  case zmain =>
    have hS := strs_take (blanks_are _ _ hz hq) j
    rw [psOf_map hbl, ← List.map_take] at hS
    obtain ⟨⟨cls, dd, data, sl⟩, ho, hc, n, hd⟩ := id hl
    simp only at hc hd
    subst hc hd
    refine call_meets PySem.F.slot_list_count ⟨_, ho, rfl⟩ PySem.F.entry_list_count (PySem.F.args_list_count_2 _ _) (PySem.SeqAt.list_countAt l (ys.take j).toArray n dd sl (.str (Str.ofString " ") t) (isStrOf (Str.ofString " "))) ⟨ho, fun y hy => (eq_isStrOf _ t hS y (by simpa using hy)).at _ _, ?_⟩
    rw [show (ys.take j).toArray.toList = ys.take j from rfl, cnt_blk hS]
    exact h
  case zfin => run_tac Mine.sq
end
theorem hF_blk {bs : List Bool} (hbl : bs.length = 11) {i : Nat} (hi : i < 11) : 2 * (((bs.take (i + 1)).count true : Nat) : Int) - (i : Int) - 1 = hF (psOf bs) i := by
  rw [hF_eq hbl hi, htsB_get bs 0 i (by omega)]
  omega
end Mine

theorem Mine.use_M92g : True := by
  w_top off
  run_tac Mine.use ["linesP", "linesZZ"]
  trivial
namespace Mine
theorem plain_row {bs : List Bool} (hbl : bs.length = 11) (hbc : bs.count true = 6) : plainF (psOf bs) 11 = (rowF (psOf bs) 11).map fun k => ((List.range 11).map (hF (psOf bs))).getD k 0 := by
  have ok := plain_ok hbl hbc
  rw [ok.second]
  refine List.map_congr_left fun k hk => ?_
  have := ok.lt k hk
  rw [List.getD_eq_getElem?_getD, List.getElem?_map, List.getElem?_range this]
  rfl
theorem hts_len (f : Nat → Int) : ((List.range 11).map f).length = 11 := by rw [List.length_map, List.length_range]
end Mine

theorem Mine.use_M92h : True := by
  w_top off
  run_tac Mine.use ["linesP", "linesZZ"]
  trivial
namespace Mine
/-- between two turns of the law's loop -/
noncomputable def LawI (w : World) (a dx ct rw p : Addr) (rws ys : Array Value) (n3 np : Nat) (E0 : List (Addr × Obj)) (i : Nat) (m : Str → Option Value) (news : List (Addr × Obj)) (g : Array GenState) : Prop :=
  ∃ (T : List (Addr × Obj)) (its : Array Value) (na : Nat) (iv : Value) (tki : Tok) (cs : Array Value) (nc : Nat),
    news = (ct, W.listOf cs nc) :: (a, accO dx its na) :: (dx, iniD w tki iv) :: (rw, W.listOf rws n3) :: (p, W.listOf ys np) :: (E0 ++ T) ∧ AllBare g ∧ Tabs T ∧ its.size ≤ 100 ∧ IntsIn cs ((List.range i).map fun (r : Nat) => 23 - 4 * (r : Int)) ∧
    m (Str.ofString "ring") = some (.ref a) ∧ m (Str.ofString "steps") = some (.ref p) ∧ m (Str.ofString "counts") = some (.ref ct)
theorem PathIs.acc {E : List (Addr × Obj)} {items : Array Value} {ps : List (Bool × Str)} (h : PathIs E items ps) : AccIs E items (accOf ps ps.length) := by
  refine @Mine.sqz _ ?zmain ?zfin
  case zmain =>
    have e : accOf ps ps.length = ps.map fun p => (blk p.1, p.2) := by unfold accOf; rw [List.take_length]
    rw [e]
    refine ⟨by rw [List.length_map]; exact h.1, fun i q eq => ?_⟩
    rw [List.getElem?_map] at eq
    obtain ⟨p, ep, rfl⟩ := Option.map_eq_some_iff.mp eq
    exact h.2 i p ep
  case zfin => run_tac Mine.sq
theorem acc_short {bs : List Bool} : ∀ q ∈ accOf (psOf bs) (psOf bs).length, q.1.length ≤ 100 ∧ q.2.length ≤ 100 := by
  refine @Mine.sqz _ ?zmain ?zfin
  case zmain =>
    intro q hq
    unfold accOf at hq
    rw [List.take_length] at hq
    obtain ⟨p, hp, rfl⟩ := List.mem_map.mp hq
    have h1 := sign_len _ (psOf_sign p hp)
    refine ⟨?_, by show p.2.length ≤ 100; omega⟩
    show (blk p.1).length ≤ 100
    cases p.1 <;> decide +kernel
  case zfin => run_tac Mine.sq
theorem acc_weight {bs : List Bool} (hbl : bs.length = 11) (hbc : bs.count true = 6) : weight (accOf (psOf bs) (psOf bs).length) = 17 ∧ (accOf (psOf bs) (psOf bs).length).length ≤ 100 := by
  refine ⟨?_, ?_⟩
  · rw [psOf_len hbl, weight_acc hbl 11 (Nat.le_refl _), List.take_of_length_le (by omega), hbc]; rfl
  · unfold accOf; rw [List.length_map, List.length_take, psOf_len hbl]; decide
end Mine

theorem Mine.use_M92j : True := by
  w_top off
  run_tac Mine.use ["linesP", "linesZZ"]
  trivial
namespace Mine
open PySem.SeqAt
section
variable {prog : Program} {w : World} {A : Around} {E : Value → Shared → Prop} {s : Shared} {Q : Value → Shared → Prop}
theorem four_ne {l b a1 a2 c1 c2 t1 t2 : Addr} {v : Value} {xs ys : Array Value} {u1 u2 u3 u4 : Tok}
    (hl : s.heap.IsList l #[.ref a1, v, .ref c1, .ref t1]) (hb : s.heap.IsList b #[.ref a2, v, .ref c2, .ref t2]) (h1 : s.heap.IsList a1 xs) (h2 : s.heap.IsList a2 xs) (h3 : s.heap.IsList c1 ys) (h4 : s.heap.IsList c2 ys)
    (h5 : s.heap.IsTuple t1 #[.str (Str.ofString "") u1, .str (Str.ofString "") u2]) (h6 : s.heap.IsTuple t2 #[.str (Str.ofString "") u3, .str (Str.ofString "") u4]) (n1 : a1 ≠ a2) (n2 : c1 ≠ c2) (n3 : t1 ≠ t2) (hu : A.units < 900) (h : Q (.bool false) s) :
    wpAny (model prog w) A (compareOp .NotEq (.ref l) (.ref b)) Q E s := by
  refine @Mine.sqz _ ?zmain ?zfin
  case zmain =>
    have hu0 : A.units < cLine := Nat.lt_of_lt_of_le hu (Nat.le_of_ble_eq_true rfl)
    have hu1 : A.in1.units < cLine := Nat.lt_of_lt_of_le (show A.in1.units < 902 by dsimp only [Around.in1]; omega) (Nat.le_of_ble_eq_true rfl)
    have hall : ∀ n : Nat, (List.range n).all (fun _ => true) = true := fun n => by simp
    have L : ∀ {p q : Addr} {zs : Array Value}, s.heap.IsList p zs → s.heap.IsList q zs → p ≠ q → EqAt A.in1 s (.ref p) (.ref q) true := fun {p q zs} hp hq hn => by
      have := RcAt.lists (A := A.in1) (e := fun _ => true) hp hq rfl hu1 (fun j _ _ => EqAt.same _)
      rw [hall] at this
      exact EqAt.of_refs hn this
    have S : ∀ (a b : Tok), EqAt A.in1.in1 s (.str (Str.ofString "") a) (.str (Str.ofString "") b) true := fun a b => by
      have := EqAt.str_str (A := A.in1.in1) (s := s) (Str.ofString "") a (Str.ofString "") b
      rwa [show (Str.ofString "" == Str.ofString "") = true by decide +kernel] at this
    have T : EqAt A.in1 s (.ref t1) (.ref t2) true := by
      have := RcAt.tuples (A := A.in1) (e := fun _ => true) h5 h6 hu1 (fun j j1 j2 => by
        match j, j1, j2 with
        | 0, _, _ => exact S u1 u3
        | 1, _, _ => exact S u2 u4)
      exact EqAt.of_refs n3 this
    refine PySem.SeqAt.RcNeAt.lists (e := fun _ => true) hl hb rfl hu0 (fun j j1 j2 => ?_) prog w E Q ?_
    · match j, j1, j2 with
      | 0, _, _ => exact L h1 h2 n1
      | 1, _, _ => exact EqAt.same _
      | 2, _, _ => exact L h3 h4 n2
      | 3, _, _ => exact T
    · exact h
  case zfin => run_tac Mine.sq
theorem nil_ne {l b : Addr} (hl : s.heap.IsList l #[]) (hb : s.heap.IsList b #[]) (hu : A.units < 900) (h : Q (.bool false) s) :
    wpAny (model prog w) A (compareOp .NotEq (.ref l) (.ref b)) Q E s :=
  PySem.SeqAt.RcNeAt.lists (e := fun _ => true) hl hb rfl (Nat.lt_of_lt_of_le hu (Nat.le_of_ble_eq_true rfl)) (fun j j1 _ => absurd j1 (Nat.not_lt_zero j)) prog w E Q h
end
theorem take_push {ys : Array Value} {k : Nat} {v : Value} (h : ys[k]? = some v) : (ys.toList.take (k + 1)).toArray = (ys.toList.take k).toArray.push v := by
  rw [List.take_add_one, List.push_toArray]
  have : ys.toList[k]? = some v := by rw [← h]; simp
  rw [this]; rfl
end Mine

theorem Mine.use_M92k : True := by
  w_top off
  run_tac Mine.use ["linesP", "linesZZ"]
  trivial
namespace Mine
theorem tup_part (E : List (Addr × Obj)) : ∃ Es : List (Addr × Obj), AllTup Es ∧ (∀ q ∈ Es, q ∈ E) ∧ ∀ q ∈ E, (∃ vs, q.2 = tupO vs) → q ∈ Es :=
  ⟨E.filter (fun q : Addr × Obj => @decide (∃ vs, q.2 = tupO vs) (Classical.propDecidable _)), fun q hq => @of_decide_eq_true _ (Classical.propDecidable _) (List.mem_filter.mp hq).2, fun q hq => (List.mem_filter.mp hq).1, fun q hq h => List.mem_filter.mpr ⟨hq, @decide_eq_true _ (Classical.propDecidable _) h⟩⟩
theorem pathIs_cat {rest : List (Addr × Obj)} {items : Array Value} {bs : List Bool} {k : Nat} (hbl : bs.length = 11) (h : PathIs rest items (psOf bs)) (hk : k < 11) : PathIs rest ((items.toList.drop (k + 1)).toArray.toList ++ (items.toList.take k).toArray.toList).toArray (pathOf bs k) := by
  refine @Mine.sqz _ ?zmain ?zfin
  case zmain =>
    have := pathIs_mid hbl h hk
    rwa [show (items.toList.drop (k + 1)).toArray ++ (items.toList.take k).toArray = ((items.toList.drop (k + 1)).toArray.toList ++ (items.toList.take k).toArray.toList).toArray from by simp] at this
  case zfin => run_tac Mine.sq
end Mine

theorem Mine.use_M92l : True := by
  w_top off
  run_tac Mine.use ["linesP", "linesZZ"]
  trivial
namespace Mine
theorem counts_push {cs : Array Value} {i n : Nat} {t : Tok} (h : IntsIn cs ((List.range i).map fun (r : Nat) => 23 - 4 * (r : Int))) (e : ((n : Nat) : Int) = 23 - 4 * (i : Int)) : IntsIn (cs.push (.int (n : Int) t)) ((List.range (i + 1)).map fun (r : Nat) => 23 - 4 * (r : Int)) := by
  refine @Mine.sqz _ ?zmain ?zfin
  case zmain =>
    have hz : cs.size = i := by have := h.1; rwa [List.length_map, List.length_range] at this
    refine ⟨by rw [Array.size_push, List.length_map, List.length_range, hz], fun j z ej => ?_⟩
    rw [List.range_succ, List.map_append, List.map_cons, List.map_nil] at ej
    rw [Array.getElem?_push, hz]
    by_cases q : j = i
    · subst q
      rw [List.getElem?_append_right (by rw [List.length_map, List.length_range]; exact Nat.le_refl _), List.length_map, List.length_range, Nat.sub_self] at ej
      exact ⟨t, by rw [if_pos rfl, ← (Option.some.inj ej : _ = z), e]⟩
    · rw [if_neg q]
      have hj : j < i := by
        have := (List.getElem?_eq_some_iff.mp ej).1
        rw [List.length_append, List.length_map, List.length_range, List.length_singleton] at this; omega
      rw [List.getElem?_append_left (by rw [List.length_map, List.length_range]; exact hj)] at ej
      exact h.2 j z ej
  case zfin => run_tac Mine.sq
theorem counts_lit (a b c d e f : Tok) : IntsIn #[.int 23 a, .int 19 b, .int 15 c, .int 11 d, .int 7 e, .int 3 f] ((List.range 6).map fun (r : Nat) => 23 - 4 * (r : Int)) := by
  refine @Mine.sqz _ ?zmain ?zfin
  case zmain =>
    refine ⟨rfl, fun j z ej => ?_⟩
    match j, ej with
    | 0, ej => exact ⟨a, by rw [← (Option.some.inj ej : (23 : Int) = z)]; rfl⟩
    | 1, ej => exact ⟨b, by rw [← (Option.some.inj ej : (19 : Int) = z)]; rfl⟩
    | 2, ej => exact ⟨c, by rw [← (Option.some.inj ej : (15 : Int) = z)]; rfl⟩
    | 3, ej => exact ⟨d, by rw [← (Option.some.inj ej : (11 : Int) = z)]; rfl⟩
    | 4, ej => exact ⟨e, by rw [← (Option.some.inj ej : (7 : Int) = z)]; rfl⟩
    | 5, ej => exact ⟨f, by rw [← (Option.some.inj ej : (3 : Int) = z)]; rfl⟩
    | j + 6, ej => cases ej
  case zfin => run_tac Mine.sq
theorem grown_of {g h : Heap} {L : Addr} {T news : List (Addr × Obj)} (hT : Tabs T) (N : News g L h news) (k : ∀ q ∈ T, q ∈ news) : ∀ q ∈ ([(111, 107), (118, 114), (236, 234), (298, 296), (293, 291), (288, 286)] : List (Addr × Addr)), GrownAt q.2 h := by
  refine @Mine.sqz _ ?zmain ?zfin
  case zmain =>
    have G : ∀ P x, (P, x) ∈ tabList → GrownAt P h := fun P x hm => by
      obtain ⟨ps, ok⟩ := hT.tab (P, x) hm
      exact ⟨ps, (N _ (k _ ok.mem)).1⟩
    exact List.forall_mem_cons.mpr ⟨G 107 _ (.head _), List.forall_mem_cons.mpr ⟨G 114 _ (.tail _ (.head _)), List.forall_mem_cons.mpr ⟨G 234 _ (.tail _ (.tail _ (.head _))), List.forall_mem_cons.mpr ⟨G 296 _ (.tail _ (.tail _ (.tail _ (.head _)))), List.forall_mem_cons.mpr ⟨G 291 _ (.tail _ (.tail _ (.tail _ (.tail _ (.head _))))), List.forall_mem_cons.mpr ⟨G 286 _ (.tail _ (.tail _ (.tail _ (.tail _ (.tail _ (.head _)))))), fun _ h => nomatch h⟩⟩⟩⟩⟩⟩
  case zfin => run_tac Mine.sq
end Mine

theorem Mine.row_linesL : True := by
  k_with "@linesL@SrcLP" => ((k_here; k_dflt (refine' LCp.SrcLP.ledger ?hh ?F ?N ?a ?z ?_; (case hh => exact rfl); (case F => k_asm); (case N => k_asm); (case a => run_tac Mine.memT); (case z => (show _ ≤ sizeLine; rw [PySem.sizeLine_eq]; omega))); intro g'; k_dflt (refine' Mine.blank_rest (ps := Mine.psOf _) (fun _ => rfl) (fun _ => rfl) ?x ?p ?s ?_ _ _ _ ?e ?l ?q; (case x => decide); (case p => exact Mine.PathIs.mono (by assumption) (by intro q hq; repeat' (first | exact List.mem_append_left _ hq | refine List.Mem.tail _ ?_))); (case s => exact .inr ⟨_, by run_tac Mine.memT, rfl, _, rfl⟩); (case e => (rw [Mine.psOf_len (by assumption)]; omega)); (case l => exact rfl); (case q => (intro j p hj; omega))); intro ys' hz' hq'))
  k_with "@linesL@CompSrc" => ((k_here; first | (k_dflt (refine' LCg.CompSrc.ledger ?hh ?F ?N ?a ?z ?_; (case hh => exact rfl); (case F => k_asm); (case N => k_asm); (case a => run_tac Mine.memT); (case z => (show _ ≤ sizeLine; rw [PySem.sizeLine_eq]; omega))); intro g'; k_dflt (refine' Mine.pick_rest (fun _ => rfl) (fun _ => rfl) (fun _ => rfl) ?b1 ?b2 ?c ?m ?d ?h ?i ?lt ?dm ?s ?ks ?_ _ _ _ ?e ?l; (case b1 => decide); (case b2 => decide); (case c => exact rfl); (case m => run_tac Mine.memT); (case d => assumption); (case h => run_tac Mine.memT); (case i => assumption); (case s => exact .inr ⟨_, by run_tac Mine.memT, rfl, _, rfl⟩); (case ks => assumption); (case lt => assumption); (case dm => first | omega | decide | (rw [Mine.hts_len]; omega)); (case e => omega); (case l => (refine ⟨rfl, ?_⟩; intro i k e; cases e))); intro ys' hq') | (k_dflt (refine' LCg.CompSrc.range (n := 11) ?hh ?F ?N ?a ?b ?c ?z ?_; (case hh => exact rfl); (case F => k_asm); (case N => k_asm); (case a => assumption); (case b => decide); (case c => exact rfl); (case z => (show _ ≤ sizeLine; rw [PySem.sizeLine_eq]; omega))); refine Mine.stop_ ?_)))
  k_with "@linesL@compareOp NotEq ref ref" => ((k_here; (with_reducible show wpAny _ _ (compareOp CmpOp.NotEq (Value.ref _) (Value.ref _)) _ _ _); k_dflt (first | (refine' Mine.nil_ne ?la ?lb ?u ?_; (case la => exact News.isList (by k_asm) (by run_tac Mine.memT)); (case lb => exact News.isList (by k_asm) (by run_tac Mine.memT)); (case u => ((try dsimp only [Around.deeper, Around.in1]); first | exact Nat.lt_of_lt_of_le (by assumption) (by decide) | exact Nat.lt_of_lt_of_le (Nat.succ_lt_succ (by assumption)) (by decide) | exact Nat.lt_of_lt_of_le (Nat.succ_lt_succ (Nat.succ_lt_succ (by assumption))) (by decide) | omega))) | (refine' Mine.four_ne ?la ?lb ?h1 ?h2 ?h3 ?h4 ?h5 ?h6 ?n1 ?n2 ?n3 ?u ?_; (case la => exact News.isList (by k_asm) (by run_tac Mine.memT)); (case lb => exact News.isList (by k_asm) (by run_tac Mine.memT)); (case h1 => exact News.isList (by k_asm) (by run_tac Mine.memT)); (case h2 => exact News.isList (by k_asm) (by run_tac Mine.memT)); (case h3 => exact News.isList (by k_asm) (by run_tac Mine.memT)); (case h4 => exact News.isList (by k_asm) (by run_tac Mine.memT)); (case h5 => exact News.isTup (by k_asm) (by run_tac Mine.memT)); (case h6 => exact News.isTup (by k_asm) (by run_tac Mine.memT)); (case n1 => k_ne); (case n2 => k_ne); (case n3 => k_ne); (case u => ((try dsimp only [Around.deeper, Around.in1]); first | exact Nat.lt_of_lt_of_le (by assumption) (by decide) | exact Nat.lt_of_lt_of_le (Nat.succ_lt_succ (by assumption)) (by decide) | exact Nat.lt_of_lt_of_le (Nat.succ_lt_succ (Nat.succ_lt_succ (by assumption))) (by decide) | omega))) | (refine' Mine.ints_ne ?la ?lb ?c ?d ?u ?_; (case la => exact News.isList (by k_asm) (by run_tac Mine.memT)); (case lb => exact News.isList (by k_asm) (by run_tac Mine.memT)); (case c => assumption); (case d => assumption); (case u => ((try dsimp only [Around.deeper, Around.in1]); first | exact Nat.lt_of_lt_of_le (by assumption) (by decide) | exact Nat.lt_of_lt_of_le (Nat.succ_lt_succ (by assumption)) (by decide) | exact Nat.lt_of_lt_of_le (Nat.succ_lt_succ (Nat.succ_lt_succ (by assumption))) (by decide) | omega))))))
  k_with "@linesL@exec Assign cons ListComp" => ((k_here; k_dflt (refine wpAny_Assign_Name ?_)))
  k_with "@linesL@eval ListComp" => ((k_here; lcf_look; k_dflt (refine LCg.ListComp_U (F₀ := by k_asm) (by with_unfolding_all rfl) (by decide) (by rfl) (by decide) (by rfl) ?_)))
  k_with "@linesL@eval Name" => ((k_here; (with_reducible show wpAny _ _ (eval (Expr.Name _ _) (compEnvC _ _ _ _)) _ _ _); k_dflt (first | (refine' lcf_cell ?N ?c ?m ?d ?_ ?a ?b; (case b => rfl); (case a => rfl); (case N => k_asm); (case c => rfl); (case m => run_tac Mine.memT); (case d => assumption)) | (refine' LCgL.ld_own ?N ?m ?h ?x ?_ ?k ?l; (case l => rfl); (case k => rfl); (case N => k_asm); (case m => run_tac Mine.memT); (case h => assumption); (case x => assumption)))))
  k_with "@linesL@subscriptTail Name Slice ref ref" => ((k_here; k_dflt (refine' kms_slice_lit ?F ?N ?l ?p ?q ?e ?_ ?s ?t ?z; (case F => k_asm); (case N => k_asm); (case l => exact News.isList (by k_asm) (by run_tac Mine.memT)); (case p => constructor); (case q => constructor); (case e => first | exact Mine.pick_take1 _ _ | exact Mine.pick_drop1 _ _ | exact Mine.pick_take _ _ | exact Mine.pick_drop _ _); (case s => with_unfolding_all rfl); (case t => intro _; with_unfolding_all rfl); (case z => (show _ ≤ sizeLine; rw [PySem.sizeLine_eq]; (try simp only [List.size_toArray]); omega))); intro D' h' F' N' l1; (try k_lt l1)))
  k_with "@linesL@call builtin:list.count" => ((k_here; k_dflt (refine' Mine.count_blanks ?l ?b ?z ?q ?_; (case l => exact News.isList (by k_asm) (by run_tac Mine.memT)); (case b => assumption); (case z => assumption); (case q => assumption))))
  k_with "@linesL@call ref" => ((k_here; (with_reducible show wpAny _ _ (call (Value.ref 112) _) _ _ _); k_dflt (refine' wpAny_call (Mine.len_cS ?cB ?cF ?cX ?cN ?cT ?cf ?ck ?cd ?cu ?cs ?cE ?cTt ?c1 ?c2 ?c3 ?c4 ?c5 ?c6 ?_); (case cB => k_asm); (case cF => k_asm); (case cX => k_asm); (case cN => k_asm); (case cT => k_asm); (case cf => exact rfl); (case ck => exact rfl); (case cd => ((try dsimp only [Around.deeper, Around.in1]); first | exact Nat.lt_of_lt_of_le (by assumption) (by decide) | exact Nat.lt_of_lt_of_le (Nat.succ_lt_succ (by assumption)) (by decide) | exact Nat.lt_of_lt_of_le (Nat.succ_lt_succ (Nat.succ_lt_succ (by assumption))) (by decide) | omega)); (case cu => ((try dsimp only [Around.deeper, Around.in1]); first | exact Nat.lt_of_lt_of_le (by assumption) (by decide) | exact Nat.lt_of_lt_of_le (Nat.succ_lt_succ (by assumption)) (by decide) | exact Nat.lt_of_lt_of_le (Nat.succ_lt_succ (Nat.succ_lt_succ (by assumption))) (by decide) | omega)); (case cTt => assumption); (case cs => (repeat' (first | exact Mine.Split.app | exact Mine.Split.nil | refine' Mine.Split.cons ?_))); (case cE => (repeat' (first | assumption | (refine List.forall_mem_cons.mpr ⟨?_, ?_⟩) | exact List.forall_mem_nil _ | exact rfl | exact Mine.isTabE_cell (by assumption) | exact Mine.isTabE_dict (by assumption) | fail))); (case c1 => run_tac Mine.memT); (case c2 => run_tac Mine.memT); (case c3 => first | exact .inl rfl | exact .inr rfl); (case c4 => exact Mine.AccIs.mono (ps := Mine.accOf (Mine.psOf _) _) (by assumption) (by intro p hp; repeat' (first | exact hp | refine List.Mem.tail _ ?_))); (case c5 => assumption); (case c6 => assumption)); intro Tn' h' g' t' tk' hT' hle' F' N' hg'; (try simp only [List.cons_append, List.nil_append] at N'); k_dflt (first | refine ⟨⟨by omega, by omega⟩, ?_⟩ | skip)))
  k_with "@linesL@binaryOp Add ref ref" => ((k_here; k_dflt (refine' kmk_add_lit ?F ?N ?la ?lb ?e ?_ ?z; (case F => k_asm); (case N => k_asm); (case la => exact News.isList (by k_asm) (by run_tac Mine.memT)); (case lb => exact News.isList (by k_asm) (by run_tac Mine.memT)); (case e => exact rfl); (case z => (show _ ≤ sizeLine; rw [PySem.sizeLine_eq]; simp only [List.length_drop, List.length_take, Array.length_toList]; omega))); intro D' h' F' N' l1; (try k_lt l1)))
  trivial
theorem Mine.row_linesK : True := by
  k_with "@linesK@call ref" => ((k_here; (first | (with_reducible show wpAny _ _ (call (Value.ref 284) _) _ _ _) | (with_reducible show wpAny _ _ (call (Value.ref 289) _) _ _ _) | (with_reducible show wpAny _ _ (call (Value.ref 294) _) _ _ _) | (with_reducible show wpAny _ _ (call (Value.ref 299) _) _ _ _) | (with_reducible show wpAny _ _ (call (Value.ref 127) _) _ _ _) | (with_reducible show wpAny _ _ (call (Value.ref 97) _) _ _ _) | (with_reducible show wpAny _ _ (call (Value.ref 105) _) _ _ _) | (with_reducible show wpAny _ _ (call (Value.ref 119) _) _ _ _) | (with_reducible show wpAny _ _ (call (Value.ref 306) _) _ _ _)); refine Mine.stop_ ?_))
  k_with "@linesK@call builtin:list.append" => ((k_here; refine Mine.stop_ ?_))
  k_with "@linesK@compareOp Eq ref ref" => ((k_here; k_dflt (refine' Mine.ints_eq ?la ?lb ?c ?d ?u ?_; (case la => exact News.isList (by k_asm) (by run_tac Mine.memT)); (case lb => exact News.isList (by k_asm) (by run_tac Mine.memT)); (case c => assumption); (case d => exact Mine.counts_lit _ _ _ _ _ _); (case u => ((try dsimp only [Around.deeper, Around.in1]); first | exact Nat.lt_of_lt_of_le (by assumption) (by decide) | exact Nat.lt_of_lt_of_le (Nat.succ_lt_succ (by assumption)) (by decide) | exact Nat.lt_of_lt_of_le (Nat.succ_lt_succ (Nat.succ_lt_succ (by assumption))) (by decide) | omega)))))
  trivial
theorem Mine.use_M93 : True := by
  w_top off
  run_tac Mine.use ["linesP", "lines", "clines", "clines2", "lines3", "lines4", "lines5", "lines6", "linesM", "linesN", "linesW", "linesE", "linesS", "linesL", "linesK", "linesZZ"]
  trivial
theorem Mine.topTest : PySem.Challenge.rw_if0017_01.Holds := by
  refine @Mine.sqz _ ?zmain ?zfin
  case zmain =>
    exact Mine.hd (by
    k_fill
    intro w s₀ s₁ mg mb G Y fa o pm cd doc dV kV ho hd hcd hD hmg hg args vals as hpre hlay hrd hwl hlo
    have KX := km_in_of Y
    km_tabs Y
    have X := (Ground.X G).1
    have V := (Ground.X G).2
    refine Ground.open G ?_
    intro T B D TE TW
    try (refine guard_noD D (by decide +kernel) ?_; clear D)
    have hT9 : TabsAt ([(111, 107), (118, 114), (236, 234), (298, 296), (293, 291), (288, 286)] : List (Addr × Addr)) s₁.heap :=
      List.forall_mem_cons.mpr ⟨⟨codeHd_of_K (c := 111) (P := 107) KX (by kernel_rfl), hT8 107 (by decide)⟩,
      List.forall_mem_cons.mpr ⟨⟨codeHd_of_K (c := 118) (P := 114) KX (by kernel_rfl), hT8 114 (by decide)⟩,
      List.forall_mem_cons.mpr ⟨⟨codeHd_of_K (c := 236) (P := 234) KX (by kernel_rfl), hT8 234 (by decide)⟩,
      List.forall_mem_cons.mpr ⟨⟨codeHd_of_K (c := 298) (P := 296) KX (by kernel_rfl), hT8 296 (by decide)⟩,
      List.forall_mem_cons.mpr ⟨⟨codeHd_of_K (c := 293) (P := 291) KX (by kernel_rfl), hT8 291 (by decide)⟩,
      List.forall_mem_cons.mpr ⟨⟨codeHd_of_K (c := 288) (P := 286) KX (by kernel_rfl), hT8 286 (by decide)⟩, fun _ h => nomatch h⟩⟩⟩⟩⟩⟩
    clear hT8
    clear hmg
    wrow_args hpre hlay hrd hwl hlo
    all_goals (
      first | refine callC_kw (enter_call ?_) | refine enter_call ?_
      w_top on
      refine Mine.postB hT9 (fun _ _ => rfl) (by wrow_post) ?_
      w_call any ho hd hcd hD T F
      clear hd
      kn_ghosts F T
      k_drop
      skip)
    rename_i xs z1 z2 z3 z4 z5 z6 z7 sc vals z8 z9 z10 z11 z12 hI z13 hlen z14 h1 tk1 oB oA hB hA X0 X' T' K' F' c1 c2 c3 c4 c5 N' lz
    replace hB : ∃ v, oB.data = .cell v := ⟨_, hB⟩
    replace hA : ∃ v, oA.data = .cell v := ⟨_, hA⟩
    obtain ⟨vB, hB⟩ := hB
    obtain ⟨vA, hA⟩ := hA
    clear c1 c2 c3 c4 c5 codeHd z1 z2 z3 z4 z5 z6 z7 z8 z9 z10 z11 z12 z13 z14 X0 hD TE TW B T V X Y G ho hcd
    obtain ⟨m, hm, F⟩ : ∃ m : Str → Option Value, m (Str.ofString "script") = some (.ref sc) ∧ Fr _ _ h1 m := ⟨_, rfl, F'⟩
    clear F'
    obtain ⟨lo, T'⟩ : ∃ lo, Top topProg lo _ mg mb _ := ⟨_, T'⟩
    (try dsimp only)
    have hz : xs.length ≤ 63 := by omega
    clear hlen
    have em : m = fun y => if y = Str.ofString "script" then some (Value.ref sc) else m y := by
      funext y
      by_cases e : y = Str.ofString "script"
      · rw [if_pos e, e]; exact hm
      · rw [if_neg e]
    rw [em] at F
    clear em hm
    generalize ghostOf s₁.heap [(111, 107), (118, 114), (236, 234), (298, 296), (293, 291), (288, 286)] = g at *
    generalize s₁.heap.objs.size = L at *
    generalize ExcName.means s₀.heap = me at *
    rw [show callerA = Around.mk none 301 (some []) (some []) 4 from rfl]
    k_steps
    unfold Mine.Stop
    rename_i T'0
    clear T'0
    refine' wpAny_call (Mine.steps_c (vals := vals) (xs := xs) ?cB ?cF ?cX ?cN ?cT ?cf ?ck ?cd ?cu lifted hI hz ?_)
    case cB => k_asm
    case cF => k_asm
    case cX => k_asm
    case cN => k_asm
    case cT => k_asm
    case cf => exact rfl
    case ck => exact rfl
    case cd => (try dsimp only [Around.deeper, Around.in1]); first | exact Nat.lt_of_lt_of_le (by assumption) (by decide) | exact Nat.lt_of_lt_of_le (Nat.succ_lt_succ (by assumption)) (by decide) | exact Nat.lt_of_lt_of_le (Nat.succ_lt_succ (Nat.succ_lt_succ (by assumption))) (by decide) | omega
    case cu => (try dsimp only [Around.deeper, Around.in1]); first | exact Nat.lt_of_lt_of_le (by assumption) (by decide) | exact Nat.lt_of_lt_of_le (Nat.succ_lt_succ (by assumption)) (by decide) | exact Nat.lt_of_lt_of_le (Nat.succ_lt_succ (Nat.succ_lt_succ (by assumption))) (by decide) | omega
    intro p h2 tk2 ys nw np bs F2 N2 sub2 hps hbl hbc
    (try dsimp only)
    clear F N'
    obtain ⟨E0, hE0, hps0, p1, p2, p3, p4, p5, N2⟩ := Mine.law_pack (T := Mine.tabs0) N2 sub2 hps hA hB
    clear sub2 hps
    have hT0 := Mine.tabs0_ok
    have nA : Mine.isTabE oA = false := Mine.isTabE_cell hA
    have nB : Mine.isTabE oB = false := Mine.isTabE_cell hB
    have nE := hE0.tab
    generalize Mine.tabs0 = T at *
    k_steps
    unfold Mine.Stop
    rename_i z1 z2 a dx z3 tk3 z4 na l1 l2 h3 F3 N3
    obtain ⟨o1, o2, o3, l4⟩ := l1
    have lE : ∀ q ∈ E0, @LT.lt Nat _ q.1 dx := fun q hq => allLt_mem l4 q (List.mem_append_left _ hq)
    have o4 : @LT.lt Nat _ dx a := l2
    have ea : ∀ q ∈ E0, q.1 ≠ a := fun q hq => Nat.ne_of_lt (Nat.lt_trans (lE q hq) o4)
    have edx : ∀ q ∈ E0, q.1 ≠ dx := fun q hq => Nat.ne_of_lt (lE q hq)
    have psz : ys.size = 11 := hps0.1.trans (Mine.psOf_len hbl)
    refine' wpAny_call (Mine.rows_c (a := a) (dx := dx) (p := p) (items := ys) (na := na) (E := (dx, iniD w tk3 (.int 3 z2)) :: (p, W.listOf ys np) :: (L + 1 + 1, oB) :: (L + 1, oA) :: E0) (T := T) (ps := psOf bs) ?cB ?cF ?cX ?cN ?cT ?cf ?ck ?cd ?cu ?cE hT0 ?ca (.head _) (.tail _ (.head _)) (by omega) (hps0.mono fun q hq => .tail _ (.tail _ (.tail _ (.tail _ hq)))) Mine.psOf_sign ?_)
    case cB => k_asm
    case cF => k_asm
    case cX => k_asm
    case cN => k_asm
    case cT => k_asm
    case cf => exact rfl
    case ck => exact rfl
    case cd => (try dsimp only [Around.deeper, Around.in1]); first | exact Nat.lt_of_lt_of_le (by assumption) (by decide) | exact Nat.lt_of_lt_of_le (Nat.succ_lt_succ (by assumption)) (by decide) | exact Nat.lt_of_lt_of_le (Nat.succ_lt_succ (Nat.succ_lt_succ (by assumption))) (by decide) | omega
    case cu => (try dsimp only [Around.deeper, Around.in1]); first | exact Nat.lt_of_lt_of_le (by assumption) (by decide) | exact Nat.lt_of_lt_of_le (Nat.succ_lt_succ (by assumption)) (by decide) | exact Nat.lt_of_lt_of_le (Nat.succ_lt_succ (Nat.succ_lt_succ (by assumption))) (by decide) | omega
    case cE => exact List.forall_mem_cons.mpr ⟨rfl, List.forall_mem_cons.mpr ⟨rfl, List.forall_mem_cons.mpr ⟨nB, List.forall_mem_cons.mpr ⟨nA, nE⟩⟩⟩⟩
    case ca => exact List.forall_mem_cons.mpr ⟨by k_ne, List.forall_mem_cons.mpr ⟨by k_ne, List.forall_mem_cons.mpr ⟨by k_ne, List.forall_mem_cons.mpr ⟨by k_ne, ea⟩⟩⟩⟩
    intro t h5 tk5 g5 hl rw_ pl hls rws pls n2 n3 n4 ri n5 Ei Ti F5 N5 ⟨o5, o6, o7, o8⟩ sub5 nEi xEi hTi zri hI1 hI2 hI3 hgb
    have e1 := hE0.apart N5 (fun q hq => .tail _ (.tail _ (.tail _ (.tail _ (.tail _ (List.mem_append_left _ (sub5 q (.tail _ (.tail _ (.tail _ (.tail _ hq))))))))))) (a := hl) (.tail _ (.tail _ (.tail _ (.head _)))) (by intro e; injection e with e; exact absurd e (by decide))
    replace N5 : News g L h5 ((t, tupO [.ref hl, .ref rw_, .ref pl]) :: (pl, W.listOf pls n2) :: (rw_, W.listOf rws n3) :: (hl, W.listOf hls n4) :: (a, accO dx ri n5) :: (dx, iniD w tk3 (.int 3 z2)) :: (p, W.listOf ys np) :: (L + 1 + 1, oB) :: (L + 1, oA) :: (E0 ++ Ti)) := news_sub N5 ?sub
    case sub =>
      intro q hq
      rcases List.mem_cons.mp hq with rfl | hq
      · repeat' (first | exact List.Mem.head _ | refine List.Mem.tail _ ?_)
      rcases List.mem_cons.mp hq with rfl | hq
      · repeat' (first | exact List.Mem.head _ | refine List.Mem.tail _ ?_)
      rcases List.mem_cons.mp hq with rfl | hq
      · repeat' (first | exact List.Mem.head _ | refine List.Mem.tail _ ?_)
      rcases List.mem_cons.mp hq with rfl | hq
      · repeat' (first | exact List.Mem.head _ | refine List.Mem.tail _ ?_)
      rcases List.mem_cons.mp hq with rfl | hq
      · repeat' (first | exact List.Mem.head _ | refine List.Mem.tail _ ?_)
      refine .tail _ (.tail _ (.tail _ (.tail _ (.tail _ ?_))))
      rcases List.mem_cons.mp hq with rfl | hq
      · exact List.mem_append_left _ (sub5 _ (.head _))
      rcases List.mem_cons.mp hq with rfl | hq
      · exact List.mem_append_left _ (sub5 _ (.tail _ (.head _)))
      rcases List.mem_cons.mp hq with rfl | hq
      · exact List.mem_append_left _ (sub5 _ (.tail _ (.tail _ (.head _))))
      rcases List.mem_cons.mp hq with rfl | hq
      · exact List.mem_append_left _ (sub5 _ (.tail _ (.tail _ (.tail _ (.head _)))))
      rcases List.mem_append.mp hq with hq | hq
      · exact List.mem_append_left _ (sub5 _ (.tail _ (.tail _ (.tail _ (.tail _ hq)))))
      · exact List.mem_append_right _ hq
    clear F3 N3 sub5 nEi xEi hT0 l4
    rw [Mine.psOf_len hbl] at hI1 hI2 hI3
    have ok := Mine.plain_ok hbl hbc
    have epl := Mine.plain_row hbl hbc
    rw [epl] at hI3
    have hlt : ∀ k ∈ Mine.rowF (Mine.psOf bs) 11, k < ((List.range 11).map (Mine.hF (Mine.psOf bs))).length := by rw [Mine.hts_len]; exact ok.lt
    have hrz := hI2.1
    have hrl := ok.len
    rw [hrl] at hrz
    have o50 : @LT.lt Nat _ a hl := o5
    have o60 : @LT.lt Nat _ hl rw_ := o6
    have o70 : @LT.lt Nat _ rw_ pl := o7
    have o80 : @LT.lt Nat _ pl t := o8
    clear o5 o6 o7 o8
    (try dsimp only)
    k_steps
    unfold Mine.Stop
    intro g6
    have i0 : Mine.IntsIn (([] : List Value).toArray) ((List.range 0).map (Mine.hF (Mine.psOf bs))) := ⟨rfl, fun i k e => by cases e⟩
    refine Mine.range_rest (f := Mine.hF (Mine.psOf bs)) (n := 11) ?turn ?fin 11 0 [] rfl i0
    case turn =>
      intro i hi I C oD' oI oC oD m2 h6 tk6 ti E' hC hx F N off ne
      have hysz := Mine.psOf_len hbl
      simp only [LCg.Off3] at off
      k_steps
      rename_i D6 h7 F7 N7 l7
      exact ⟨h7, _, _, congrArg (fun z => Value.int z _) (Mine.hF_blk hbl hi), rfl, F7, News.tail' N7⟩
    intro ys2 hy2
    k_steps
    unfold Mine.Stop
    rename_i h8 tk8 F8 N8 o8
    have hI4 := hI3
    rw [← epl] at hI4
    have hpz : (Mine.plainF (Mine.psOf bs) 11).length = 6 := by rw [epl, List.length_map]; exact ok.len
    refine' wpAny_call (Mine.found_c (E := (pl, W.listOf pls n2) :: (rw_, W.listOf rws n3) :: (hl, W.listOf hls n4) :: (a, accO dx ri n5) :: (dx, iniD w tk3 (.int 3 z2)) :: (p, W.listOf ys np) :: E0) (T := Ti) ?cB ?cF ?cX (news_sub N8 ?cN) ?cT ?cf ?ck ?cd ?cu ?cE hTi (.tail _ (.tail _ (.head _))) (.tail _ (.head _)) (.head _) hI1 hI2 hI4 (Mine.hts_len _) hrl hpz ok.lt ok.found ?_)
    case cB => k_asm
    case cF => k_asm
    case cX => k_asm
    case cT => k_asm
    case cf => exact rfl
    case ck => exact rfl
    case cd => (try dsimp only [Around.deeper, Around.in1]); first | exact Nat.lt_of_lt_of_le (by assumption) (by decide) | exact Nat.lt_of_lt_of_le (Nat.succ_lt_succ (by assumption)) (by decide) | exact Nat.lt_of_lt_of_le (Nat.succ_lt_succ (Nat.succ_lt_succ (by assumption))) (by decide) | omega
    case cu => (try dsimp only [Around.deeper, Around.in1]); first | exact Nat.lt_of_lt_of_le (by assumption) (by decide) | exact Nat.lt_of_lt_of_le (Nat.succ_lt_succ (by assumption)) (by decide) | exact Nat.lt_of_lt_of_le (Nat.succ_lt_succ (Nat.succ_lt_succ (by assumption))) (by decide) | omega
    case cE => exact List.forall_mem_cons.mpr ⟨rfl, List.forall_mem_cons.mpr ⟨rfl, List.forall_mem_cons.mpr ⟨rfl, List.forall_mem_cons.mpr ⟨rfl, List.forall_mem_cons.mpr ⟨rfl, List.forall_mem_cons.mpr ⟨rfl, nE⟩⟩⟩⟩⟩⟩
    case cN =>
      repeat (apply Mine.subC; first | run_tac Mine.memT | focus (repeat' (first | exact List.Mem.head _ | refine List.Mem.tail _ ?_)))
      first | exact Mine.subD 0 rfl | exact Mine.subD 1 rfl | exact Mine.subD 2 rfl | exact Mine.subD 3 rfl | exact Mine.subD 4 rfl | exact Mine.subD 5 rfl | exact Mine.subD 6 rfl | exact Mine.subD 7 rfl | exact Mine.subD 8 rfl | exact Mine.subD 9 rfl | exact Mine.subD 10 rfl | exact Mine.subD 11 rfl | exact Mine.subD 12 rfl | exact Mine.subD 13 rfl | exact Mine.subD 14 rfl | exact Mine.subD 15 rfl | exact Mine.subD 16 rfl | exact Mine.subD 17 rfl | exact Mine.subD 18 rfl | exact Mine.subD 19 rfl | exact Mine.subD 20 rfl | exact Mine.subD 21 rfl | exact Mine.subD 22 rfl | exact Mine.subD 23 rfl
    intro h9 tk9 Tf F9 N9 hTf
    replace N9 : News g L h9 ((rw_, W.listOf rws n3) :: (a, accO dx ri n5) :: (dx, iniD w tk3 (.int 3 z2)) :: (p, W.listOf ys np) :: (E0 ++ Tf)) := news_sub N9 ?sub9
    case sub9 =>
      repeat (apply Mine.subC; first | run_tac Mine.memT | focus (repeat' (first | exact List.Mem.head _ | refine List.Mem.tail _ ?_)))
      first | exact Mine.subD 0 rfl | exact Mine.subD 1 rfl | exact Mine.subD 2 rfl | exact Mine.subD 3 rfl | exact Mine.subD 4 rfl | exact Mine.subD 5 rfl | exact Mine.subD 6 rfl | exact Mine.subD 7 rfl | exact Mine.subD 8 rfl | exact Mine.subD 9 rfl | exact Mine.subD 10 rfl | exact Mine.subD 11 rfl | exact Mine.subD 12 rfl | exact Mine.subD 13 rfl | exact Mine.subD 14 rfl | exact Mine.subD 15 rfl | exact Mine.subD 16 rfl | exact Mine.subD 17 rfl | exact Mine.subD 18 rfl | exact Mine.subD 19 rfl | exact Mine.subD 20 rfl | exact Mine.subD 21 rfl | exact Mine.subD 22 rfl | exact Mine.subD 23 rfl
    clear N8 F8 hTi hI1 hI3 hI4 hpz o8
    (try dsimp only)
    k_steps
    unfold Mine.Stop
    rename_i ct h10 l10 h11 F11 N11
    have q10 : @LT.lt Nat _ rw_ ct := l10.1
    have q11 : @LT.lt Nat _ a ct := l10.2.1
    have q12 : @LT.lt Nat _ dx ct := l10.2.2.1
    have q13 : @LT.lt Nat _ p ct := l10.2.2.2.1
    have ect : ∀ q ∈ E0, q.1 ≠ ct := fun q hq => Nat.ne_of_lt (Nat.lt_trans (lE q hq) q12)
    have erw : ∀ q ∈ E0, q.1 ≠ rw_ := fun q hq => Nat.ne_of_lt (Nat.lt_trans (lE q hq) (Nat.lt_trans o4 (Nat.lt_trans o50 o60)))
    have hgb5 : AllBare g5 := hgb (.of_eq hg)
    obtain ⟨hw1, hw2⟩ := Mine.acc_weight hbl hbc
    have o51 : @LT.lt Nat _ a rw_ := Nat.lt_trans o50 o60
    have hac := hps0.acc
    have has := Mine.acc_short (bs := bs)
    clear l10
    refine Mine.for_listD (vs := rws) (Mine.LawI w a dx ct rw_ p rws ys n3 np E0) rfl F11 (news_sub N11 (b := (ct, W.listOf #[] 0) :: (a, accO dx ri n5) :: (dx, iniD w tk3 (.int 3 z2)) :: (rw_, W.listOf rws n3) :: (p, W.listOf ys np) :: (E0 ++ Tf)) ?sub) ?hl ?start ?turn ?done
    case sub =>
      repeat (apply Mine.subC; first | run_tac Mine.memT | focus (repeat' (first | exact List.Mem.head _ | refine List.Mem.tail _ ?_)))
      first | exact Mine.subD 0 rfl | exact Mine.subD 1 rfl | exact Mine.subD 2 rfl | exact Mine.subD 3 rfl | exact Mine.subD 4 rfl | exact Mine.subD 5 rfl | exact Mine.subD 6 rfl | exact Mine.subD 7 rfl | exact Mine.subD 8 rfl | exact Mine.subD 9 rfl | exact Mine.subD 10 rfl | exact Mine.subD 11 rfl | exact Mine.subD 12 rfl | exact Mine.subD 13 rfl | exact Mine.subD 14 rfl | exact Mine.subD 15 rfl | exact Mine.subD 16 rfl | exact Mine.subD 17 rfl | exact Mine.subD 18 rfl | exact Mine.subD 19 rfl | exact Mine.subD 20 rfl | exact Mine.subD 21 rfl | exact Mine.subD 22 rfl | exact Mine.subD 23 rfl
    case hl =>
      rintro i m news g h ⟨T, its, na, iv, tki, cs, nc, rfl, _⟩ _ N
      exact News.isList N (.tail _ (.tail _ (.tail _ (.head _))))
    case start => exact ⟨Tf, ri, n5, _, tk3, #[], 0, rfl, hgb5, hTf, Nat.le_trans zri (by decide), ⟨rfl, fun i k e => by cases e⟩, rfl, rfl, rfl⟩
    case turn =>
      clear F11 N11 hTf hgb hgb5 zri o50 o60 o70 o80 o2 o3 epl
      rintro i v m news gg h tk dr it E' hv ⟨T, its, na, iv, tki, cs, nc, rfl, hgg, hTt, hiz, hcs, hm1, hm2, hm3⟩ F3 N3 di
      have hi : i < 6 := by rw [← hrz]; exact (Array.getElem?_eq_some_iff.mp hv).1
      obtain ⟨k, hk⟩ : ∃ k, k = (Mine.rowF (Mine.psOf bs) 11).getD i 0 := ⟨_, rfl⟩
      have hk2 : (Mine.rowF (Mine.psOf bs) 11)[i]? = some k := by rw [hk, List.getD_eq_getElem?_getD, List.getElem?_eq_getElem (by omega)]; rfl
      obtain ⟨tv, e2⟩ := hI2.2 i k hk2
      obtain rfl : v = .int (k : Nat) tv := Option.some.inj (hv.symm.trans e2)
      have hk11 : k < 11 := ok.lt k (List.mem_of_getElem? hk2)
      have em : m = fun y => if y = Str.ofString "counts" then some (Value.ref ct) else if y = Str.ofString "steps" then some (Value.ref p) else if y = Str.ofString "ring" then some (Value.ref a) else m y := by
        funext y
        by_cases e1 : y = Str.ofString "counts"
        · rw [if_pos e1, e1]; exact hm3
        · rw [if_neg e1]
          by_cases e2 : y = Str.ofString "steps"
          · rw [if_pos e2, e2]; exact hm2
          · rw [if_neg e2]
            by_cases e3 : y = Str.ofString "ring"
            · rw [if_pos e3, e3]; exact hm1
            · rw [if_neg e3]
      rw [em] at F3
      clear em hm1 hm2 hm3
      have dj := Mine.allNe_of di
      simp only [Mine.AllNe, and_true] at dj
      refine wpAny_pure ?_
      (try dsimp only [Mine.StD])
      k_steps
      unfold Mine.Stop
      rename_i z20 z21 FR NR
      refine' wpAny_call (Mine.reset_c (a := a) (dx := dx) (items := its) (n := na) (its := ys) (nb := np) (b := p) (rest := (it, Mine.iterO rw_ (i + 1)) :: (ct, W.listOf cs nc) :: (rw_, W.listOf rws n3) :: (p, W.listOf ys np) :: (E0 ++ T)) ?cB ?cF ?cX (news_sub NR ?cN) ?cT ?cf ?ck ?cd ?cu (.tail _ (.tail _ (.tail _ (.head _)))) o4 ?ca ?cr hiz (by omega) ?_)
      case cB => k_asm
      case cF => k_asm
      case cX => k_asm
      case cT => k_asm
      case cf => exact rfl
      case ck => exact rfl
      case cd => (try dsimp only [Around.deeper, Around.in1]); first | exact Nat.lt_of_lt_of_le (by assumption) (by decide) | exact Nat.lt_of_lt_of_le (Nat.succ_lt_succ (by assumption)) (by decide) | exact Nat.lt_of_lt_of_le (Nat.succ_lt_succ (Nat.succ_lt_succ (by assumption))) (by decide) | omega
      case cu => (try dsimp only [Around.deeper, Around.in1]); first | exact Nat.lt_of_lt_of_le (by assumption) (by decide) | exact Nat.lt_of_lt_of_le (Nat.succ_lt_succ (by assumption)) (by decide) | exact Nat.lt_of_lt_of_le (Nat.succ_lt_succ (Nat.succ_lt_succ (by assumption))) (by decide) | omega
      case ca => exact List.forall_mem_cons.mpr ⟨by k_ne, List.forall_mem_cons.mpr ⟨by k_ne, List.forall_mem_cons.mpr ⟨by k_ne, List.forall_mem_cons.mpr ⟨by k_ne, List.forall_mem_append.mpr ⟨ea, tabs_apart NR (fun q hq => .tail _ (.tail _ (.tail _ (.tail _ (.tail _ (.tail _ (List.mem_append_right _ hq))))))) hTt (.tail _ (.tail _ (.head _))) rfl⟩⟩⟩⟩⟩
      case cr => exact List.forall_mem_cons.mpr ⟨by k_ne, List.forall_mem_cons.mpr ⟨by k_ne, List.forall_mem_cons.mpr ⟨by k_ne, List.forall_mem_cons.mpr ⟨by k_ne, List.forall_mem_append.mpr ⟨edx, tabs_apart NR (fun q hq => .tail _ (.tail _ (.tail _ (.tail _ (.tail _ (.tail _ (List.mem_append_right _ hq))))))) hTt (.tail _ (.tail _ (.tail _ (.head _)))) rfl⟩⟩⟩⟩⟩
      case cN =>
        repeat (apply Mine.subC; first | run_tac Mine.memT | focus (repeat' (first | exact List.Mem.head _ | refine List.Mem.tail _ ?_)))
        first | exact Mine.subD 0 rfl | exact Mine.subD 1 rfl | exact Mine.subD 2 rfl | exact Mine.subD 3 rfl | exact Mine.subD 4 rfl | exact Mine.subD 5 rfl | exact Mine.subD 6 rfl | exact Mine.subD 7 rfl | exact Mine.subD 8 rfl | exact Mine.subD 9 rfl | exact Mine.subD 10 rfl | exact Mine.subD 11 rfl | exact Mine.subD 12 rfl | exact Mine.subD 13 rfl | exact Mine.subD 14 rfl | exact Mine.subD 15 rfl | exact Mine.subD 16 rfl | exact Mine.subD 17 rfl | exact Mine.subD 18 rfl | exact Mine.subD 19 rfl | exact Mine.subD 20 rfl | exact Mine.subD 21 rfl | exact Mine.subD 22 rfl | exact Mine.subD 23 rfl
      intro h12 tk12 n12 t12 u12 F12 N12
      clear FR NR hiz
      (try dsimp only)
      k_steps
      all_goals (try (exfalso; omega))
      unfold Mine.Stop
      rename_i T1 z30 g1 z31 z32 hT1 z33 z34 z35 hgb1 h13 z36 z37 F13 N13 hcmp
      have hg1 : AllBare g1 := hgb1 hgg
      obtain ⟨ts, tb, tsg, ek, hts⟩ := hps0.2 k _ (List.getElem?_eq_getElem (show k < (Mine.psOf bs).length by rw [Mine.psOf_len hbl]; exact hk11))
      clear hcmp z34 z35 z33 hgb1 hTt
      rw [show ((k : Int) + 1) = ((k + 1 : Nat) : Int) from rfl]
      refine' wpAny_call (Mine.popfrom_c (a := a) (dx := dx) (items := ys) (n := n12) (i := k + 1) (rest := (dx, iniD w t12 (.int 0 u12)) :: (it, Mine.iterO rw_ (i + 1)) :: (ct, W.listOf cs nc) :: (rw_, W.listOf rws n3) :: (p, W.listOf ys np) :: (E0 ++ T1)) ?cB ?cF ?cX N13 ?cT ?cf ?ck ?cd ?cu (.head _) ?ca (by omega) (by omega) ?_)
      case cB => k_asm
      case cF => k_asm
      case cX => k_asm
      case cT => k_asm
      case cf => exact rfl
      case ck => exact rfl
      case cd => (try dsimp only [Around.deeper, Around.in1]); first | exact Nat.lt_of_lt_of_le (by assumption) (by decide) | exact Nat.lt_of_lt_of_le (Nat.succ_lt_succ (by assumption)) (by decide) | exact Nat.lt_of_lt_of_le (Nat.succ_lt_succ (Nat.succ_lt_succ (by assumption))) (by decide) | omega
      case cu => (try dsimp only [Around.deeper, Around.in1]); first | exact Nat.lt_of_lt_of_le (by assumption) (by decide) | exact Nat.lt_of_lt_of_le (Nat.succ_lt_succ (by assumption)) (by decide) | exact Nat.lt_of_lt_of_le (Nat.succ_lt_succ (Nat.succ_lt_succ (by assumption))) (by decide) | omega
      case ca => exact List.forall_mem_cons.mpr ⟨by k_ne, List.forall_mem_cons.mpr ⟨by k_ne, List.forall_mem_cons.mpr ⟨by k_ne, List.forall_mem_cons.mpr ⟨by k_ne, List.forall_mem_cons.mpr ⟨by k_ne, List.forall_mem_append.mpr ⟨ea, tabs_apart N13 (fun q hq => .tail _ (.tail _ (.tail _ (.tail _ (.tail _ (.tail _ (List.mem_append_right _ hq))))))) hT1 (.head _) rfl⟩⟩⟩⟩⟩⟩
      intro l1 h14 tk14 n14 n15 F14 N14 ll1
      have x1 : @LT.lt Nat _ a l1 := ll1 _ (.head _)
      have x2 : @LT.lt Nat _ it l1 := ll1 _ (.tail _ (.tail _ (.head _)))
      have x3 : @LT.lt Nat _ ct l1 := ll1 _ (.tail _ (.tail _ (.tail _ (.head _))))
      have x4 : @LT.lt Nat _ rw_ l1 := ll1 _ (.tail _ (.tail _ (.tail _ (.tail _ (.head _)))))
      clear F13 N13 ll1
      rw [Mine.take_push ek] at N14
      (try dsimp only)
      k_steps
      unfold Mine.Stop
      rename_i tk15 h15 F15 N15
      (try dsimp only [List.append_nil])
      refine' wpAny_call (Mine.pop_c (a := a) (dx := dx) (items := (ys.toList.take k).toArray) (v := .ref ts) (n := n15) (rest := (l1, W.listOf (ys.toList.drop (k + 1)).toArray n14) :: (dx, iniD w t12 (.int 0 u12)) :: (it, Mine.iterO rw_ (i + 1)) :: (ct, W.listOf cs nc) :: (rw_, W.listOf rws n3) :: (p, W.listOf ys np) :: (E0 ++ T1)) ?cB ?cF ?cX (news_sub N15 ?cN) ?cT ?cf ?ck ?cd ?cu (.tail _ (.head _)) ?ca (by rw [List.size_toArray, List.length_take]; omega) ?_)
      case cB => k_asm
      case cF => k_asm
      case cX => k_asm
      case cT => k_asm
      case cf => exact rfl
      case ck => exact rfl
      case cd => (try dsimp only [Around.deeper, Around.in1]); first | exact Nat.lt_of_lt_of_le (by assumption) (by decide) | exact Nat.lt_of_lt_of_le (Nat.succ_lt_succ (by assumption)) (by decide) | exact Nat.lt_of_lt_of_le (Nat.succ_lt_succ (Nat.succ_lt_succ (by assumption))) (by decide) | omega
      case cu => (try dsimp only [Around.deeper, Around.in1]); first | exact Nat.lt_of_lt_of_le (by assumption) (by decide) | exact Nat.lt_of_lt_of_le (Nat.succ_lt_succ (by assumption)) (by decide) | exact Nat.lt_of_lt_of_le (Nat.succ_lt_succ (Nat.succ_lt_succ (by assumption))) (by decide) | omega
      case ca => exact List.forall_mem_cons.mpr ⟨by k_ne, List.forall_mem_cons.mpr ⟨by k_ne, List.forall_mem_cons.mpr ⟨by k_ne, List.forall_mem_cons.mpr ⟨by k_ne, List.forall_mem_cons.mpr ⟨by k_ne, List.forall_mem_cons.mpr ⟨by k_ne, List.forall_mem_append.mpr ⟨ea, tabs_apart N15 (fun q hq => .tail _ (.tail _ (.tail _ (.tail _ (.tail _ (.tail _ (.tail _ (List.mem_append_right _ hq)))))))) hT1 (.tail _ (.head _)) rfl⟩⟩⟩⟩⟩⟩⟩
      case cN =>
        repeat (apply Mine.subC; first | run_tac Mine.memT | focus (repeat' (first | exact List.Mem.head _ | refine List.Mem.tail _ ?_)))
        first | exact Mine.subD 0 rfl | exact Mine.subD 1 rfl | exact Mine.subD 2 rfl | exact Mine.subD 3 rfl | exact Mine.subD 4 rfl | exact Mine.subD 5 rfl | exact Mine.subD 6 rfl | exact Mine.subD 7 rfl | exact Mine.subD 8 rfl | exact Mine.subD 9 rfl | exact Mine.subD 10 rfl | exact Mine.subD 11 rfl | exact Mine.subD 12 rfl | exact Mine.subD 13 rfl | exact Mine.subD 14 rfl | exact Mine.subD 15 rfl | exact Mine.subD 16 rfl | exact Mine.subD 17 rfl | exact Mine.subD 18 rfl | exact Mine.subD 19 rfl | exact Mine.subD 20 rfl | exact Mine.subD 21 rfl | exact Mine.subD 22 rfl | exact Mine.subD 23 rfl
      intro h16 tk16 n16 F16 N16
      clear F15 N15
      (try dsimp only)
      k_steps
      unfold Mine.Stop
      rename_i tk17 h17 F17 N17
      (try dsimp only [List.append_nil])
      refine' wpAny_call (Mine.popfrom0_c (a := a) (dx := dx) (items := (ys.toList.take k).toArray) (n := n16) (rest := (l1, W.listOf (ys.toList.drop (k + 1)).toArray n14) :: (dx, iniD w t12 (.int 0 u12)) :: (it, Mine.iterO rw_ (i + 1)) :: (ct, W.listOf cs nc) :: (rw_, W.listOf rws n3) :: (p, W.listOf ys np) :: (E0 ++ T1)) ?cB ?cF ?cX N17 ?cT ?cf ?ck ?cd ?cu (.tail _ (.head _)) ?ca (by rw [List.size_toArray, List.length_take]; omega) ?_)
      case cB => k_asm
      case cF => k_asm
      case cX => k_asm
      case cT => k_asm
      case cf => exact rfl
      case ck => exact rfl
      case cd => (try dsimp only [Around.deeper, Around.in1]); first | exact Nat.lt_of_lt_of_le (by assumption) (by decide) | exact Nat.lt_of_lt_of_le (Nat.succ_lt_succ (by assumption)) (by decide) | exact Nat.lt_of_lt_of_le (Nat.succ_lt_succ (Nat.succ_lt_succ (by assumption))) (by decide) | omega
      case cu => (try dsimp only [Around.deeper, Around.in1]); first | exact Nat.lt_of_lt_of_le (by assumption) (by decide) | exact Nat.lt_of_lt_of_le (Nat.succ_lt_succ (by assumption)) (by decide) | exact Nat.lt_of_lt_of_le (Nat.succ_lt_succ (Nat.succ_lt_succ (by assumption))) (by decide) | omega
      case ca => exact List.forall_mem_cons.mpr ⟨by k_ne, List.forall_mem_cons.mpr ⟨by k_ne, List.forall_mem_cons.mpr ⟨by k_ne, List.forall_mem_cons.mpr ⟨by k_ne, List.forall_mem_cons.mpr ⟨by k_ne, List.forall_mem_cons.mpr ⟨by k_ne, List.forall_mem_append.mpr ⟨ea, tabs_apart N17 (fun q hq => .tail _ (.tail _ (.tail _ (.tail _ (.tail _ (.tail _ (.tail _ (List.mem_append_right _ hq)))))))) hT1 (.head _) rfl⟩⟩⟩⟩⟩⟩⟩
      intro l2 h18 tk18 n17 n18 F18 N18 ll2
      have x5 : @LT.lt Nat _ l1 l2 := ll2 _ (.tail _ (.head _))
      have x6 : @LT.lt Nat _ a l2 := ll2 _ (.head _)
      clear F17 N17 ll2
      (try dsimp only)
      k_steps
      unfold Mine.Stop
      rename_i tk19 h19 F19 N19
      (try dsimp only [List.append_nil])
      refine' wpAny_call (Mine.pop0_c (items := #[]) (a := a) (dx := dx) (n := n18) (rest := (l2, W.listOf (ys.toList.take k).toArray n17) :: (l1, W.listOf (ys.toList.drop (k + 1)).toArray n14) :: (dx, iniD w t12 (.int 0 u12)) :: (it, Mine.iterO rw_ (i + 1)) :: (ct, W.listOf cs nc) :: (rw_, W.listOf rws n3) :: (p, W.listOf ys np) :: (E0 ++ T1)) ?cB ?cF ?cX (news_sub N19 ?cN) ?cT ?cf ?ck ?cd ?cu (.tail _ (.tail _ (.head _))) ?ca ?_)
      case cB => k_asm
      case cF => k_asm
      case cX => k_asm
      case cT => k_asm
      case cf => exact rfl
      case ck => exact rfl
      case cd => (try dsimp only [Around.deeper, Around.in1]); first | exact Nat.lt_of_lt_of_le (by assumption) (by decide) | exact Nat.lt_of_lt_of_le (Nat.succ_lt_succ (by assumption)) (by decide) | exact Nat.lt_of_lt_of_le (Nat.succ_lt_succ (Nat.succ_lt_succ (by assumption))) (by decide) | omega
      case cu => (try dsimp only [Around.deeper, Around.in1]); first | exact Nat.lt_of_lt_of_le (by assumption) (by decide) | exact Nat.lt_of_lt_of_le (Nat.succ_lt_succ (by assumption)) (by decide) | exact Nat.lt_of_lt_of_le (Nat.succ_lt_succ (Nat.succ_lt_succ (by assumption))) (by decide) | omega
      case ca => exact List.forall_mem_cons.mpr ⟨by k_ne, List.forall_mem_cons.mpr ⟨by k_ne, List.forall_mem_cons.mpr ⟨by k_ne, List.forall_mem_cons.mpr ⟨by k_ne, List.forall_mem_cons.mpr ⟨by k_ne, List.forall_mem_cons.mpr ⟨by k_ne, List.forall_mem_cons.mpr ⟨by k_ne, List.forall_mem_append.mpr ⟨ea, tabs_apart N19 (fun q hq => .tail _ (.tail _ (.tail _ (.tail _ (.tail _ (.tail _ (.tail _ (.tail _ (List.mem_append_right _ hq))))))))) hT1 (.tail _ (.head _)) rfl⟩⟩⟩⟩⟩⟩⟩⟩
      case cN =>
        repeat (apply Mine.subC; first | run_tac Mine.memT | focus (repeat' (first | exact List.Mem.head _ | refine List.Mem.tail _ ?_)))
        first | exact Mine.subD 0 rfl | exact Mine.subD 1 rfl | exact Mine.subD 2 rfl | exact Mine.subD 3 rfl | exact Mine.subD 4 rfl | exact Mine.subD 5 rfl | exact Mine.subD 6 rfl | exact Mine.subD 7 rfl | exact Mine.subD 8 rfl | exact Mine.subD 9 rfl | exact Mine.subD 10 rfl | exact Mine.subD 11 rfl | exact Mine.subD 12 rfl | exact Mine.subD 13 rfl | exact Mine.subD 14 rfl | exact Mine.subD 15 rfl | exact Mine.subD 16 rfl | exact Mine.subD 17 rfl | exact Mine.subD 18 rfl | exact Mine.subD 19 rfl | exact Mine.subD 20 rfl | exact Mine.subD 21 rfl | exact Mine.subD 22 rfl | exact Mine.subD 23 rfl
      intro t0 h20 tk20 u20 u21 F20 N20 ll3
      have x7 : @LT.lt Nat _ l2 t0 := ll3 _ (.tail _ (.head _))
      clear F19 N19 ll3
      (try dsimp only)
      k_steps
      unfold Mine.Stop
      rename_i b9 h22 F22 N22 l22
      have pm := Mine.pathIs_cat hbl hps0 hk11
      have pk := Mine.path_ok hbl hbc hi ("<r>" : Str)
      rw [← hk] at pk
      refine' wpAny_call (Mine.sheet_c (p := b9) (n := 0) (items := ((ys.toList.drop (k + 1)).toArray.toList ++ (ys.toList.take k).toArray.toList).toArray) (E := (b9, W.listOf ((ys.toList.drop (k + 1)).toArray.toList ++ (ys.toList.take k).toArray.toList).toArray 0) :: (l2, W.listOf (ys.toList.take k).toArray n17) :: (l1, W.listOf (ys.toList.drop (k + 1)).toArray n14) :: (a, accO dx #[] n18) :: (dx, iniD w t12 (.int 0 u12)) :: (it, Mine.iterO rw_ (i + 1)) :: (ct, W.listOf cs nc) :: (rw_, W.listOf rws n3) :: (p, W.listOf ys np) :: E0) (T := T1) (ps := Mine.pathOf bs k) ?cB ?cF ?cX (news_sub N22 ?cN) ?cT ?cf ?ck ?cd ?cu ?cE hT1 (.head _) (pm.1.trans (Mine.pathOf_len hbl hk11)) (pm.mono fun q hq => .tail _ (.tail _ (.tail _ (.tail _ (.tail _ (.tail _ (.tail _ (.tail _ (.tail _ (hq)))))))))) Mine.pathOf_sign pk.1 ?_)
      case cB => k_asm
      case cF => k_asm
      case cX => k_asm
      case cT => k_asm
      case cf => exact rfl
      case ck => exact rfl
      case cd => (try dsimp only [Around.deeper, Around.in1]); first | exact Nat.lt_of_lt_of_le (by assumption) (by decide) | exact Nat.lt_of_lt_of_le (Nat.succ_lt_succ (by assumption)) (by decide) | exact Nat.lt_of_lt_of_le (Nat.succ_lt_succ (Nat.succ_lt_succ (by assumption))) (by decide) | omega
      case cu => (try dsimp only [Around.deeper, Around.in1]); first | exact Nat.lt_of_lt_of_le (by assumption) (by decide) | exact Nat.lt_of_lt_of_le (Nat.succ_lt_succ (by assumption)) (by decide) | exact Nat.lt_of_lt_of_le (Nat.succ_lt_succ (Nat.succ_lt_succ (by assumption))) (by decide) | omega
      case cE => exact List.forall_mem_cons.mpr ⟨rfl, List.forall_mem_cons.mpr ⟨rfl, List.forall_mem_cons.mpr ⟨rfl, List.forall_mem_cons.mpr ⟨rfl, List.forall_mem_cons.mpr ⟨rfl, List.forall_mem_cons.mpr ⟨rfl, List.forall_mem_cons.mpr ⟨rfl, List.forall_mem_cons.mpr ⟨rfl, List.forall_mem_cons.mpr ⟨rfl, nE⟩⟩⟩⟩⟩⟩⟩⟩⟩
      case cN =>
        repeat (apply Mine.subC; first | run_tac Mine.memT | focus (repeat' (first | exact List.Mem.head _ | refine List.Mem.tail _ ?_)))
        first | exact Mine.subD 0 rfl | exact Mine.subD 1 rfl | exact Mine.subD 2 rfl | exact Mine.subD 3 rfl | exact Mine.subD 4 rfl | exact Mine.subD 5 rfl | exact Mine.subD 6 rfl | exact Mine.subD 7 rfl | exact Mine.subD 8 rfl | exact Mine.subD 9 rfl | exact Mine.subD 10 rfl | exact Mine.subD 11 rfl | exact Mine.subD 12 rfl | exact Mine.subD 13 rfl | exact Mine.subD 14 rfl | exact Mine.subD 15 rfl | exact Mine.subD 16 rfl | exact Mine.subD 17 rfl | exact Mine.subD 18 rfl | exact Mine.subD 19 rfl | exact Mine.subD 20 rfl | exact Mine.subD 21 rfl | exact Mine.subD 22 rfl | exact Mine.subD 23 rfl
      intro t9 h24 tk24 dr24 sa sdx sl its9 na9 n29 E9 T9 ti9 zt9 F24 N24 m9 sub9 nE9 hT9' sh9 sz9
      obtain ⟨Es, hEs, es1, es2⟩ := Mine.tup_part E9
      obtain ⟨qs, hqa, hql, hqs, hqj⟩ := sh9.monoF es2
      have hE0s : ∀ q ∈ E0, q ∈ Es := fun q hq => es2 q (sub9 q (.tail _ (.tail _ (.tail _ (.tail _ (.tail _ (.tail _ (.tail _ (.tail _ (.tail _ (hq))))))))))) (hE0 q hq)
      have nEs := hEs.tab
      have hu9 : ∀ q ∈ (b9, W.listOf ((ys.toList.drop (k + 1)).toArray.toList ++ (ys.toList.take k).toArray.toList).toArray 0) :: (l2, W.listOf (ys.toList.take k).toArray n17) :: (l1, W.listOf (ys.toList.drop (k + 1)).toArray n14) :: (a, accO dx #[] n18) :: (dx, iniD w t12 (.int 0 u12)) :: (it, Mine.iterO rw_ (i + 1)) :: (ct, W.listOf cs nc) :: (rw_, W.listOf rws n3) :: (p, W.listOf ys np) :: E0, q ∈ (t9, tupO [.ref sa, .ref sl]) :: (sl, W.listOf #[] n29) :: (sa, accO sdx its9 na9) :: (E9 ++ T9) := fun q hq => .tail _ (.tail _ (.tail _ (List.mem_append_left _ (sub9 q hq))))
      replace N24 : News g L h24 ((t9, tupO [.ref sa, .ref sl]) :: (sl, W.listOf #[] n29) :: (sa, accO sdx its9 na9) :: (sdx, iniD w ti9 (.int 0 zt9)) :: (l2, W.listOf (ys.toList.take k).toArray n17) :: (l1, W.listOf (ys.toList.drop (k + 1)).toArray n14) :: (a, accO dx #[] n18) :: (dx, iniD w t12 (.int 0 u12)) :: (it, Mine.iterO rw_ (i + 1)) :: (ct, W.listOf cs nc) :: (rw_, W.listOf rws n3) :: (p, W.listOf ys np) :: (Es ++ T9)) := news_sub N24 ?sub24
      case sub24 =>
        intro q hq
        rcases List.mem_cons.mp hq with rfl | hq
        · repeat' (first | exact List.Mem.head _ | refine List.Mem.tail _ ?_)
        rcases List.mem_cons.mp hq with rfl | hq
        · repeat' (first | exact List.Mem.head _ | refine List.Mem.tail _ ?_)
        rcases List.mem_cons.mp hq with rfl | hq
        · repeat' (first | exact List.Mem.head _ | refine List.Mem.tail _ ?_)
        rcases List.mem_cons.mp hq with rfl | hq
        · exact .tail _ (.tail _ (.tail _ (List.mem_append_left _ m9)))
        rcases List.mem_cons.mp hq with rfl | hq
        · exact hu9 _ (.tail _ (.head _))
        rcases List.mem_cons.mp hq with rfl | hq
        · exact hu9 _ (.tail _ (.tail _ (.head _)))
        rcases List.mem_cons.mp hq with rfl | hq
        · exact hu9 _ (.tail _ (.tail _ (.tail _ (.head _))))
        rcases List.mem_cons.mp hq with rfl | hq
        · exact hu9 _ (.tail _ (.tail _ (.tail _ (.tail _ (.head _)))))
        rcases List.mem_cons.mp hq with rfl | hq
        · exact hu9 _ (.tail _ (.tail _ (.tail _ (.tail _ (.tail _ (.head _))))))
        rcases List.mem_cons.mp hq with rfl | hq
        · exact hu9 _ (.tail _ (.tail _ (.tail _ (.tail _ (.tail _ (.tail _ (.head _)))))))
        rcases List.mem_cons.mp hq with rfl | hq
        · exact hu9 _ (.tail _ (.tail _ (.tail _ (.tail _ (.tail _ (.tail _ (.tail _ (.head _))))))))
        rcases List.mem_cons.mp hq with rfl | hq
        · exact hu9 _ (.tail _ (.tail _ (.tail _ (.tail _ (.tail _ (.tail _ (.tail _ (.tail _ (.head _)))))))))
        rcases List.mem_append.mp hq with hq | hq
        · exact .tail _ (.tail _ (.tail _ (List.mem_append_left _ (es1 q hq))))
        · exact .tail _ (.tail _ (.tail _ (List.mem_append_right _ hq)))
      clear F22 N22 l22 hu9 sub9 nE9 sh9
      (try dsimp only)
      k_steps
      unfold Mine.Stop
      rename_i z40 h26 F26 N26 l26
      clear l26
      have hqz : qs.length ≤ 100 := by have := hqa.1; omega
      refine' wpAny_call (Mine.str_c (a := sa) (dx := sdx) (items := its9) (n := na9) (E := (sa, accO sdx its9 na9) :: (sdx, iniD w ti9 (.int 0 zt9)) :: (l2, W.listOf (ys.toList.take k).toArray n17) :: (l1, W.listOf (ys.toList.drop (k + 1)).toArray n14) :: (a, accO dx #[] n18) :: (dx, iniD w t12 (.int 0 u12)) :: (it, Mine.iterO rw_ (i + 1)) :: (ct, W.listOf cs nc) :: (rw_, W.listOf rws n3) :: (p, W.listOf ys np) :: Es) (T := T9) (ps := qs) ?cB ?cF ?cX (news_sub N26 ?cN) ?cT ?cf ?ck ?cd ?cu ?cE hT9' (.head _) (.tail _ (.head _)) (hqa.mono fun q hq => .tail _ (.tail _ (.tail _ (.tail _ (.tail _ (.tail _ (.tail _ (.tail _ (.tail _ (.tail _ (hq))))))))))) hqs hqz ?_)
      case cB => k_asm
      case cF => k_asm
      case cX => k_asm
      case cT => k_asm
      case cf => exact rfl
      case ck => exact rfl
      case cd => (try dsimp only [Around.deeper, Around.in1]); first | exact Nat.lt_of_lt_of_le (by assumption) (by decide) | exact Nat.lt_of_lt_of_le (Nat.succ_lt_succ (by assumption)) (by decide) | exact Nat.lt_of_lt_of_le (Nat.succ_lt_succ (Nat.succ_lt_succ (by assumption))) (by decide) | omega
      case cu => (try dsimp only [Around.deeper, Around.in1]); first | exact Nat.lt_of_lt_of_le (by assumption) (by decide) | exact Nat.lt_of_lt_of_le (Nat.succ_lt_succ (by assumption)) (by decide) | exact Nat.lt_of_lt_of_le (Nat.succ_lt_succ (Nat.succ_lt_succ (by assumption))) (by decide) | omega
      case cE => exact List.forall_mem_cons.mpr ⟨rfl, List.forall_mem_cons.mpr ⟨rfl, List.forall_mem_cons.mpr ⟨rfl, List.forall_mem_cons.mpr ⟨rfl, List.forall_mem_cons.mpr ⟨rfl, List.forall_mem_cons.mpr ⟨rfl, List.forall_mem_cons.mpr ⟨rfl, List.forall_mem_cons.mpr ⟨rfl, List.forall_mem_cons.mpr ⟨rfl, List.forall_mem_cons.mpr ⟨rfl, nEs⟩⟩⟩⟩⟩⟩⟩⟩⟩⟩
      case cN =>
        intro q hq
        rcases List.mem_append.mp hq with hq | hq
        · refine .tail _ (.tail _ (.tail _ ?_))
          rcases List.mem_cons.mp hq with rfl | hq
          · exact .head _
          rcases List.mem_cons.mp hq with rfl | hq
          · exact .tail _ (.head _)
          rcases List.mem_cons.mp hq with rfl | hq
          · exact .tail _ (.tail _ (.head _))
          rcases List.mem_cons.mp hq with rfl | hq
          · exact .tail _ (.tail _ (.tail _ (.head _)))
          rcases List.mem_cons.mp hq with rfl | hq
          · exact .tail _ (.tail _ (.tail _ (.tail _ (.head _))))
          rcases List.mem_cons.mp hq with rfl | hq
          · exact .tail _ (.tail _ (.tail _ (.tail _ (.tail _ (.head _)))))
          rcases List.mem_cons.mp hq with rfl | hq
          · exact .tail _ (.tail _ (.tail _ (.tail _ (.tail _ (.tail _ (.head _))))))
          rcases List.mem_cons.mp hq with rfl | hq
          · exact .tail _ (.tail _ (.tail _ (.tail _ (.tail _ (.tail _ (.tail _ (.head _)))))))
          rcases List.mem_cons.mp hq with rfl | hq
          · exact .tail _ (.tail _ (.tail _ (.tail _ (.tail _ (.tail _ (.tail _ (.tail _ (.head _))))))))
          rcases List.mem_cons.mp hq with rfl | hq
          · exact .tail _ (.tail _ (.tail _ (.tail _ (.tail _ (.tail _ (.tail _ (.tail _ (.tail _ (.head _)))))))))
          exact .tail _ (.tail _ (.tail _ (.tail _ (.tail _ (.tail _ (.tail _ (.tail _ (.tail _ (.tail _ (List.mem_append_left _ hq))))))))))
        · exact .tail _ (.tail _ (.tail _ (.tail _ (.tail _ (.tail _ (.tail _ (.tail _ (.tail _ (.tail _ (.tail _ (.tail _ (.tail _ (List.mem_append_right _ hq)))))))))))))
      intro T28 h28 g28 t28 tk28 hT28 hle28 F28 N28 hgb28
      have hg28 : AllBare g28 := hgb28 hg1
      rw [hqj]
      clear N26 F26 hgb28 hT9'
      simp only [List.cons_append] at N28
      (try dsimp only [StrBack])
      (try dsimp only)
      k_steps
      unfold Mine.Stop
      rename_i b10 h30 F30 N30 l30
      clear l30
      refine' wpAny_call (Mine.told_c (p := b10) (items := ((ys.toList.drop (k + 1)).toArray.toList ++ (ys.toList.take k).toArray.toList).toArray) (n := 0) (ps := Mine.pathOf bs k) ?cB ?cF ?cX N30 ?cT ?cf ?ck ?cd ?cu (.head _) (Nat.le_trans (Nat.le_of_eq (pm.1.trans (Mine.pathOf_len hbl hk11))) (by decide)) (pm.mono fun q hq => .tail _ (.tail _ (.tail _ (.tail _ (.tail _ (.tail _ (.tail _ (.tail _ (.tail _ (.tail _ (.tail _ (List.mem_append_left _ (hE0s q hq))))))))))))) Mine.pathOf_sign ?_)
      case cB => k_asm
      case cF => k_asm
      case cX => k_asm
      case cT => k_asm
      case cf => exact rfl
      case ck => exact rfl
      case cd => (try dsimp only [Around.deeper, Around.in1]); first | exact Nat.lt_of_lt_of_le (by assumption) (by decide) | exact Nat.lt_of_lt_of_le (Nat.succ_lt_succ (by assumption)) (by decide) | exact Nat.lt_of_lt_of_le (Nat.succ_lt_succ (Nat.succ_lt_succ (by assumption))) (by decide) | omega
      case cu => (try dsimp only [Around.deeper, Around.in1]); first | exact Nat.lt_of_lt_of_le (by assumption) (by decide) | exact Nat.lt_of_lt_of_le (Nat.succ_lt_succ (by assumption)) (by decide) | exact Nat.lt_of_lt_of_le (Nat.succ_lt_succ (Nat.succ_lt_succ (by assumption))) (by decide) | omega
      intro h31 tk31 tk32 F31 N31
      clear F30 N30
      (try dsimp only)
      k_steps
      all_goals (try (rename_i bad; exact absurd bad (by rw [bne_self_eq_false]; decide)))
      unfold Mine.Stop
      rename_i h33 tk33 tk34 F33 N33
      (try dsimp only [List.cons_append, List.nil_append])
      have N34 : News g L h33 ((it, Mine.iterO rw_ (i + 1)) :: (ct, W.listOf cs nc) :: (a, accO dx #[] n18) :: (dx, iniD w t12 (.int 0 u12)) :: (rw_, W.listOf rws n3) :: (p, W.listOf ys np) :: (E0 ++ T28)) := news_sub N33 ?sub34
      case sub34 =>
        intro q hq
        rcases List.mem_cons.mp hq with rfl | hq
        · repeat' (first | exact List.Mem.head _ | refine List.Mem.tail _ ?_)
        rcases List.mem_cons.mp hq with rfl | hq
        · repeat' (first | exact List.Mem.head _ | refine List.Mem.tail _ ?_)
        rcases List.mem_cons.mp hq with rfl | hq
        · repeat' (first | exact List.Mem.head _ | refine List.Mem.tail _ ?_)
        rcases List.mem_cons.mp hq with rfl | hq
        · repeat' (first | exact List.Mem.head _ | refine List.Mem.tail _ ?_)
        rcases List.mem_cons.mp hq with rfl | hq
        · repeat' (first | exact List.Mem.head _ | refine List.Mem.tail _ ?_)
        rcases List.mem_cons.mp hq with rfl | hq
        · repeat' (first | exact List.Mem.head _ | refine List.Mem.tail _ ?_)
        rcases List.mem_append.mp hq with hq | hq
        · exact .tail _ (.tail _ (.tail _ (.tail _ (.tail _ (.tail _ (.tail _ (.tail _ (.tail _ (.tail _ (.tail _ (List.mem_append_left _ (hE0s q hq))))))))))))
        · exact .tail _ (.tail _ (.tail _ (.tail _ (.tail _ (.tail _ (.tail _ (.tail _ (.tail _ (.tail _ (.tail _ (List.mem_append_right _ hq)))))))))))
      clear N33
      refine' Mine.list_append_U F33 N34 ?cU ?cz ?_
      case cU => k_updF
      case cz => first | omega | (have := hcs.1; rw [List.length_map, List.length_range] at this; omega)
      intro h35 F35 N35
      (try dsimp only at N35)
      clear F33 N34
      (try dsimp only)
      k_steps
      refine ⟨_, g28, _, dr24, _, (ct, W.listOf (cs.push (.int (its9.size : Nat) tk33)) (nc + 1)) :: (a, accO dx #[] n18) :: (dx, iniD w t12 (.int 0 u12)) :: (rw_, W.listOf rws n3) :: (p, W.listOf ys np) :: (E0 ++ T28), rfl, by assumption, news_sub N35 ?sub35, ?dd, ⟨T28, #[], n18, .int 0 u12, t12, cs.push (.int (its9.size : Nat) tk33), nc + 1, rfl, hg28, hT28, Nat.zero_le _, Mine.counts_push hcs ?cc, rfl, rfl, rfl⟩⟩
      case sub35 =>
        repeat (apply Mine.subC; first | run_tac Mine.memT | focus (repeat' (first | exact List.Mem.head _ | refine List.Mem.tail _ ?_)))
        first | exact Mine.subD 0 rfl | exact Mine.subD 1 rfl | exact Mine.subD 2 rfl | exact Mine.subD 3 rfl | exact Mine.subD 4 rfl | exact Mine.subD 5 rfl | exact Mine.subD 6 rfl | exact Mine.subD 7 rfl | exact Mine.subD 8 rfl | exact Mine.subD 9 rfl | exact Mine.subD 10 rfl | exact Mine.subD 11 rfl | exact Mine.subD 12 rfl | exact Mine.subD 13 rfl | exact Mine.subD 14 rfl | exact Mine.subD 15 rfl | exact Mine.subD 16 rfl | exact Mine.subD 17 rfl | exact Mine.subD 18 rfl | exact Mine.subD 19 rfl | exact Mine.subD 20 rfl | exact Mine.subD 21 rfl | exact Mine.subD 22 rfl | exact Mine.subD 23 rfl
      case dd => exact List.forall_mem_cons.mpr ⟨by k_ne, List.forall_mem_cons.mpr ⟨by k_ne, List.forall_mem_cons.mpr ⟨by k_ne, List.forall_mem_cons.mpr ⟨by k_ne, List.forall_mem_cons.mpr ⟨by k_ne, List.forall_mem_append.mpr ⟨fun q hq => di q (.tail _ (.tail _ (.tail _ (.tail _ (.tail _ (List.mem_append_left _ hq)))))), tabs_apart N35 (fun q hq => .tail _ (.tail _ (.tail _ (.tail _ (.tail _ (.tail _ (List.mem_append_right _ hq))))))) hT28 (.head _) rfl⟩⟩⟩⟩⟩⟩
      case cc => have := hqa.1; have := pk.2; omega
    case done =>
      rintro m news gg h tk dr ⟨T, its, na, iv, tki, cs, nc, rfl, hgg, hTt, hiz, hcs, hm1, hm2, hm3⟩ F3 N3
      rw [hrz] at hcs
      have em : m = fun y => if y = Str.ofString "counts" then some (Value.ref ct) else m y := by
        funext y
        by_cases e1 : y = Str.ofString "counts"
        · rw [if_pos e1, e1]; exact hm3
        · rw [if_neg e1]
      rw [em] at F3
      clear em hm1 hm2 hm3 F11 N11
      (try dsimp only [Mine.StD])
      k_steps
      · exact hgg
      · rename_i q9 hq9
        refine' Mine.grown_of hTt ?cN ?ck q9 hq9
        case cN => k_asm
        case ck => intro q hq; repeat' (first | exact List.mem_append_right _ hq | refine List.Mem.tail _ ?_))
  case zfin => run_tac Mine.sq
theorem PySem.Challenge.cw_if0017_01_holds : PySem.Challenge.rw_if0017_01.Holds := by
  exact Mine.topTest
