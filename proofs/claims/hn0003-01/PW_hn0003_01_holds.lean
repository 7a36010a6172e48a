import PyProof.Rows.All
import Wide.All
import OpenK.AllK
import Wide.FinOn
import PySem.Challenge.RW_hn0003_01
set_option Elab.async false
set_option maxRecDepth 100000

noncomputable section
namespace Mine
open PySem

/-! An evaluator of my own for the constructs that the law reaches. -/

def lB : List Nat → List Nat → Bool
  | [], [] => true
  | a :: x, b :: y => match Nat.beq a b with | true => lB x y | false => false
  | _, _ => false
def sB (a b : Str) : Bool := lB a.cps.toList b.cps.toList
def ltL : List Nat → List Nat → Bool
  | [], [] => false
  | [], _ :: _ => true
  | _ :: _, [] => false
  | a :: x, b :: y => match Nat.blt a b with | true => true | false => match Nat.beq a b with | true => ltL x y | false => false
def lk {α : Type} : List (Str × α) → Str → Option α
  | [], _ => none
  | p :: r, x => match sB x p.1 with | true => some p.2 | false => lk r x
def put {α : Type} : List (Str × α) → Str → α → List (Str × α)
  | [], x, v => [(x, v)]
  | p :: r, x, v => match sB x p.1 with | true => (p.1, v) :: r | false => p :: put r x v
def nth {α : Type} : List α → Nat → Option α
  | [], _ => none
  | x :: r, n => match n with | 0 => some x | n + 1 => nth r n
/-- a store's tree -/
inductive Tr (α : Type) | leaf | node (v : Option α) (l r : Tr α)
def Tr.get {α : Type} : Tr α → Nat → Option α
  | .leaf, _ => none
  | .node v l r, i => match Nat.beq i 0 with
    | true => v
    | false => match Nat.beq (i % 2) 1 with
      | true => l.get (i / 2)
      | false => r.get (i / 2 - 1)
def Tr.put {α : Type} : Nat → Tr α → Nat → α → Tr α
  | 0, t, _, _ => t
  | n + 1, .leaf, i, o => match Nat.beq i 0 with
    | true => .node (some o) .leaf .leaf
    | false => match Nat.beq (i % 2) 1 with
      | true => .node none (Tr.put n .leaf (i / 2) o) .leaf
      | false => .node none .leaf (Tr.put n .leaf (i / 2 - 1) o)
  | n + 1, .node v l r, i, o => match Nat.beq i 0 with
    | true => .node (some o) l r
    | false => match Nat.beq (i % 2) 1 with
      | true => .node v (Tr.put n l (i / 2) o) r
      | false => .node v l (Tr.put n r (i / 2 - 1) o)
def insN {α : Type} : List α → Nat → α → List α
  | l, 0, v => v :: l
  | [], _ + 1, v => [v]
  | x :: r, n + 1, v => x :: insN r n v

inductive Fn | len | sorted | range | list | enum | user (i : Nat)
inductive AV
  | none | bool (b : Bool) | int (i : Int) | str (x : Str) | ref (i : Nat) | fn (f : Fn)
  | any | res (k : Nat) (a : Int)
inductive AO
  | list (xs : List AV) | tup (xs : List AV) | ns (m : List (Str × AV)) | cell (v : Option AV)
  | liter (l i : Nat) | range (a b : Int) | riter (x left : Int) | siter (x : Str) (i : Nat) | junk
structure St where
  t : Tr AO
  n : Nat
def St.at (σ : St) (i : Nat) : Option AO := σ.t.get i
def St.set (σ : St) (i : Nat) (o : AO) : St := ⟨Tr.put (i + 1) σ.t i o, σ.n⟩
def St.push (σ : St) (o : AO) : St := ⟨Tr.put (σ.n + 1) σ.t σ.n o, σ.n + 1⟩
def St.nil : St := ⟨.leaf, 0⟩
structure AEnv where
  scope : Scope
  ns : Nat
  cells : List (Str × Nat)
inductive AFlow | next | brk | cont | ret (v : AV)

structure FnInfo where
  params : List Str
  dflt : List AV
  kw : List (Str × AV)
  body : List Stmt
  scope : Scope

/-- what a known call takes and gives -/
inductive XA | int (i : Int) | str (x : Str) | bool (b : Bool) | ints (l : List Int)
structure Tab where
  glob : Str → Option Fn
  info : Nat → Option FnInfo
  ext : Nat → List XA → Option XA

def alloc (o : AO) (σ : St) : AV × St := (.ref σ.n, σ.push o)

def nameA (T : Tab) (env : AEnv) (x : Str) (σ : St) : Option AV :=
  match sB x "__debug__" with
  | true => none
  | false => match lk env.scope.names x with
    | some .local => match σ.at env.ns with
      | some (.ns m) => lk m x
      | _ => none
    | some .cell => match lk env.cells x with
      | some c => match σ.at c with
        | some (.cell (some v)) => some v
        | _ => none
      | none => none
    | some .free => match sB x "__classdict__" with
      | true => none
      | false => match lk env.cells x with
        | some c => match σ.at c with
          | some (.cell (some v)) => some v
          | _ => none
        | none => none
    | some .globalImplicit => (T.glob x).map .fn
    | _ => none
def storeA (env : AEnv) (x : Str) (v : AV) (σ : St) : Option St :=
  match lk env.scope.names x with
  | some .local => match σ.at env.ns with
    | some (.ns m) => some (σ.set env.ns (.ns (put m x v)))
    | _ => none
  | some .cell => match lk env.cells x with
    | some c => match σ.at c with
      | some (.cell _) => some (σ.set c (.cell (some v)))
      | _ => none
    | none => none
  | _ => none

def small (n : Nat) : Bool := Nat.ble n 100000
def smallI (i : Int) : Bool := match i with | .ofNat n => Nat.ble n 1000000000 | .negSucc n => Nat.ble n 1000000000

def sApp (x y : Str) : Str := ⟨⟨x.cps.toList ++ y.cps.toList⟩⟩

def binA (op : Operator) (a b : AV) (σ : St) : Option (AV × St) :=
  match op with
  | .Add => match a, b with
    | .int i, .int j => some (.int (i + j), σ)
    | .str x, .str y => match small x.cps.toList.length, small y.cps.toList.length with
      | true, true => some (.str (sApp x y), σ)
      | _, _ => none
    | .ref i, .ref j => match σ.at i, σ.at j with
      | some (.list xs), some (.list ys) => match small xs.length, small ys.length with
        | true, true => some (alloc (.list (xs ++ ys)) σ)
        | _, _ => none
      | _, _ => none
    | _, _ => none
  | .Sub => match a, b with
    | .int i, .int j => some (.int (i - j), σ)
    | _, _ => none
  | .Mult => match a, b with
    | .int i, .int j => match smallI i, smallI j with
      | true, true => some (.int (i * j), σ)
      | _, _ => none
    | _, _ => none
  | .FloorDiv => match a, b with
    | .int i, .int j => match smallI i, j with
      | true, .ofNat 2 => some (.int (i.fdiv 2), σ)
      | _, _ => none
    | _, _ => none
  | .Mod => match a, b with
    | .int i, .int j => match smallI j, j with
      | true, .ofNat (n + 1) => some (.int (i.fmod (.ofNat (n + 1))), σ)
      | _, _ => none
    | .res k r, .int j => match smallI j, j with
      | true, .ofNat (n + 1) => match Nat.beq n k with
        | true => some (.int r, σ)
        | false => none
      | _, _ => none
    | _, _ => none
  | _ => none

/-- equality of two plain items -/
def eqP (a b : AV) : Option Bool := match a, b with
  | .int i, .int j => some (decide (i = j))
  | .str x, .str y => some (sB x y)
  | _, _ => none
def eqAll : List AV → List AV → Option Bool
  | [], [] => some true
  | a :: x, b :: y => match eqP a b, eqAll x y with
    | some e, some r => some (e && r)
    | _, _ => none
  | _, _ => some false
def anyEq (v : AV) : List AV → Option Bool
  | [] => some false
  | a :: x => match eqP a v, anyEq v x with
    | some e, some r => some (e || r)
    | _, _ => none
def eqA (a b : AV) (σ : St) : Option Bool := match a, b with
  | .int i, .int j => some (decide (i = j))
  | .str x, .str y => some (sB x y)
  | .bool x, .bool y => some (x == y)
  | .ref i, .ref j => match σ.at i, σ.at j with
    | some (.list xs), some (.list ys) => eqAll xs ys
    | _, _ => none
  | _, _ => none
def cmpA (op : CmpOp) (a b : AV) (σ : St) : Option Bool := match op with
  | .Eq => eqA a b σ
  | .NotEq => (eqA a b σ).map (!·)
  | .Lt => match a, b with
    | .int i, .int j => some (decide (i < j))
    | .str x, .str y => some (ltL x.cps.toList y.cps.toList)
    | _, _ => none
  | .NotIn => match b with
    | .ref i => match σ.at i with
      | some (.list xs) => (anyEq a xs).map (!·)
      | _ => none
    | .str y => match a with
      | .str x => some (!Txt.contains y x)
      | _ => none
    | _ => none
  | .Is => match b with
    | .none => match a with
      | .none => some true
      | .bool _ => some false
      | .int _ => some false
      | .str _ => some false
      | .ref _ => some false
      | _ => none
    | _ => none
  | _ => none

def iterA (v : AV) (σ : St) : Option (Nat × St) := match v with
  | .str x => some (σ.n, σ.push (.siter x 0))
  | .ref i => match σ.at i with
    | some (.list _) => some (σ.n, σ.push (.liter i 0))
    | some (.range a b) => match smallI a, smallI b with
      | true, true => some (σ.n, σ.push (.riter a (if a < b then b - a else 0)))
      | _, _ => none
    | _ => none
  | _ => none
def nextA (it : Nat) (σ : St) : Option (Option AV × St) := match σ.at it with
  | some (.liter l i) => match σ.at l with
    | some (.list xs) => match nth xs i with
      | some v => some (some v, σ.set it (.liter l (i + 1)))
      | none => some (none, σ.set it .junk)
    | _ => none
  | some (.riter x left) => match decide (0 < left) with
    | true => some (some (.int x), σ.set it (.riter (x + 1) (left - 1)))
    | false => some (none, σ.set it .junk)
  | some (.siter x i) => match nth x.cps.toList i with
    | some c => some (some (.str ⟨⟨[c]⟩⟩), σ.set it (.siter x (i + 1)))
    | none => some (none, σ.set it .junk)
  | _ => none

def storeAll (env : AEnv) : List Expr → List AV → St → Option St
  | [], [], σ => some σ
  | e :: es, v :: vs, σ => match e with
    | .Name x _ => match storeA env x v σ with
      | some σ' => storeAll env es vs σ'
      | none => none
    | _ => none
  | _, _, _ => none
def assignA (t : Expr) (env : AEnv) (v : AV) (σ : St) : Option St := match t with
  | .Name x _ => storeA env x v σ
  | .Tuple es _ _ => match v with
    | .ref i => match σ.at i with
      | some (.tup xs) => storeAll env es xs σ
      | _ => none
    | _ => none
  | _ => none

def notStar (e : Expr) : Bool := match e with | .Starred .. => false | _ => true
def evL (f : Expr → St → Option (AV × St)) : List Expr → St → Option (List AV × St)
  | [], σ => some ([], σ)
  | e :: es, σ => match notStar e, f e σ with
    | true, some (v, σ) => match evL f es σ with
      | some (vs, σ) => some (v :: vs, σ)
      | none => none
    | _, _ => none

def bindAll (env : AEnv) : List (Str × AV) → St → Option St
  | [], σ => some σ
  | p :: r, σ => match storeA env p.1 p.2 σ with
    | some σ => bindAll env r σ
    | none => none
def mkCells : List (Str × NameKind) → List (Str × Nat) → St → List (Str × Nat) × St
  | [], cs, σ => (cs, σ)
  | p :: r, cs, σ => match p.2 with
    | .cell => mkCells r ((p.1, σ.n) :: cs) (σ.push (.cell none))
    | _ => mkCells r cs σ
def mkEnv (scope : Scope) (closure : List (Str × Nat)) (σ : St) : AEnv × St :=
  let n := σ.n
  let r := mkCells scope.names closure (σ.push (.ns []))
  (⟨scope, n, r.1⟩, r.2)
def closA (env : AEnv) : List (Str × NameKind) → List (Str × Nat) → Option (List (Str × Nat))
  | [], cs => some cs
  | p :: r, cs => match p.2 with
    | .free => match lk env.cells p.1 with
      | some c => closA env r ((p.1, c) :: cs)
      | none => none
    | _ => closA env r cs
def ownKind (env : AEnv) (p : Str × NameKind) : Str × NameKind := match p.2 with
  | .free => match lk env.scope.names p.1 with
    | some .cell => (p.1, .cell)
    | _ => p
  | _ => p
def compScope (env : AEnv) (scope : Scope) : Scope := { scope with names := scope.names.map (ownKind env) }

structure Ops where
  ev : Nat → Expr → AEnv → St → Option (AV × St)
  tr : Nat → Expr → AEnv → St → Option (Bool × St)
  ex : Nat → Stmt → AEnv → St → Option (AFlow × St)
  exs : Nat → List Stmt → AEnv → St → Option (AFlow × St)
  forL : Nat → Expr → Nat → List Stmt → AEnv → St → Option (AFlow × St)
  whl : Nat → Expr → List Stmt → AEnv → St → Option (AFlow × St)
  comp : Nat → Expr → Nat → Nat → Nat → AEnv → St → Option St
  call : Nat → AV → List AV → St → Option (AV × St)

def notSet (e : Expr) : Bool := match e with | .Set .. => false | _ => true

def isLocal (o : Option NameKind) : Bool := match o with | some .local => true | _ => false
def namesOk (all : List (Str × NameKind)) : List (Str × NameKind) → Bool
  | [] => true
  | p :: r => match p.2 with
    | .local => match isLocal (lk all p.1) with
      | true => namesOk all r
      | false => false
    | _ => namesOk all r
def isFun (k : ScopeKind) : Bool := match k with | .function => true | _ => false
/-- a comprehension: its list, in a store -/
def compA (O : Ops) (k : Nat) (e : Expr) (env : AEnv) (σ : St) : Option (AV × St) := match e with
  | .ListComp _ gens scope _ => match gens with
    | ⟨_, iter, _, 0⟩ :: _ => match notSet iter, O.ev k iter env σ with
      | true, some (x, σ) => match iterA x σ with
        | some (it, σ) => match isFun scope.kind, namesOk (compScope env scope).names scope.names, closA env scope.names [] with
          | true, true, some cl =>
            let acc := σ.n
            let (cenv, σ) := mkEnv scope cl (σ.push (.list []))
            let cenv : AEnv := { cenv with scope := compScope env scope }
            match O.comp k e 0 it acc cenv σ with
            | some σ => match σ.at cenv.ns with
              | some (.ns _) => some (.ref acc, σ.set cenv.ns .junk)
              | _ => none
            | none => none
          | _, _, _ => none
        | none => none
      | _, _ => none
    | _ => none
  | _ => none

def toInts : List AV → Option (List Int)
  | [] => some []
  | .int i :: r => (toInts r).map (i :: ·)
  | _ => none
def toStrs : List AV → Option (List Str)
  | [] => some []
  | .str x :: r => (toStrs r).map (x :: ·)
  | _ => none
def rdX (σ : St) : List AV → Option (List XA)
  | [] => some []
  | v :: r => match rdX σ r with
    | none => none
    | some l => match v with
      | .int i => some (.int i :: l)
      | .str x => some (.str x :: l)
      | .ref i => match σ.at i with
        | some (.list xs) => match toInts xs with
          | some ns => some (.ints ns :: l)
          | none => none
        | _ => none
      | _ => none

def insS (x : Str) : List Str → List Str
  | [] => [x]
  | y :: r => match ltL y.cps.toList x.cps.toList with | true => y :: insS x r | false => x :: y :: r
def sortS : List Str → List Str
  | [] => []
  | x :: r => insS x (sortS r)
def joinS : List Str → List Nat
  | [] => []
  | x :: r => x.cps.toList ++ joinS r
def upToZ (a : Int) : Nat → List AV
  | 0 => []
  | n + 1 => .int a :: upToZ (a + 1) n

inductive Meth | join | append | insert | index
def methK (name : Str) (o : AV) (σ : St) : Option Meth := match o with
  | .str _ => match sB name "join" with
    | true => some .join
    | false => none
  | .ref l => match σ.at l with
    | some (.list _) => match sB name "append" with
      | true => some .append
      | false => match sB name "insert" with
        | true => some .insert
        | false => match sB name "index" with
          | true => some .index
          | false => none
    | _ => none
  | _ => none
def methA (m : Meth) (o : AV) (args : List AV) (σ : St) : Option (AV × St) := match m with
  | .join => match o, args with
    | .str x, [.ref i] => match x.cps.toList, σ.at i with
      | [], some (.list xs) => match toStrs xs with
        | some ys => match small ys.length, small (joinS ys).length with
          | true, true => some (.str ⟨⟨joinS ys⟩⟩, σ)
          | _, _ => none
        | none => none
      | _, _ => none
    | _, _ => none
  | .append => match o, args with
    | .ref l, [v] => match σ.at l with
      | some (.list xs) => match small xs.length with
        | true => some (.none, σ.set l (.list (xs ++ [v])))
        | false => none
      | _ => none
    | _, _ => none
  | .insert => match o, args with
    | .ref l, [.int (.ofNat i), v] => match σ.at l with
      | some (.list xs) => match small xs.length, Nat.ble i xs.length with
        | true, true => some (.none, σ.set l (.list (insN xs i v)))
        | _, _ => none
      | _ => none
    | _, _ => none
  | .index => match o, args with
    | .ref l, [.int i] => match σ.at l with
      | some (.list xs) => match small xs.length, toInts xs with
        | true, some ns => match ns.contains i with
          | true => some (.int (Int.ofNat (ns.idxOf i)), σ)
          | false => none
        | _, _ => none
      | _ => none
    | _, _ => none

def cmpE (O : Ops) (k : Nat) (l : Expr) (ops : List CmpOp) (cs : List Expr) (env : AEnv) (σ : St) : Option (Bool × St) := match ops, cs with
  | [op], [r] => match notSet r, O.ev k l env σ with
    | true, some (a, σ) => match O.ev k r env σ with
      | some (b, σ) => match cmpA op a b σ with
        | some r => some (r, σ)
        | none => none
      | none => none
    | _, _ => none
  | _, _ => none
def okFn (T : Tab) (f : Fn) : Bool := match f with | .user i => (T.info i).isSome | _ => true
def notCall (e : Expr) : Bool := match e with | .Call .. => false | _ => true
def stepEv (T : Tab) (O : Ops) (k : Nat) (e : Expr) (env : AEnv) (σ : St) : Option (AV × St) := match e with
  | .Constant c _ _ => match c with
    | .int i => some (.int i, σ)
    | .str x => some (.str x, σ)
    | .bool b => some (.bool b, σ)
    | .none => some (.none, σ)
    | _ => none
  | .Name x _ => match nameA T env x σ with
    | some v => some (v, σ)
    | none => none
  | .BinOp l op r _ => match O.ev k l env σ with
    | some (a, σ) => match O.ev k r env σ with
      | some (b, σ) => binA op a b σ
      | none => none
    | none => none
  | .List es _ => match small es.length, evL (fun e σ => O.ev k e env σ) es σ with
    | true, some (vs, σ) => some (alloc (.list vs) σ)
    | _, _ => none
  | .Tuple es _ _ => match small es.length, evL (fun e σ => O.ev k e env σ) es σ with
    | true, some (vs, σ) => some (alloc (.tup vs) σ)
    | _, _ => none
  | .ListComp .. => compA O k e env σ
  | .Compare l ops cs _ => match cmpE O k l ops cs env σ with
    | some (r, σ) => some (.bool r, σ)
    | none => none
  | .BoolOp op vs _ => match op, vs with
    | .And, [x, y] => match O.ev k x env σ with
      | some (.bool b, σ) => match b with
        | true => O.ev k y env σ
        | false => some (.bool false, σ)
      | _ => none
    | _, _ => none
  | .Subscript o i _ => match i with
    | .Slice .. => none
    | _ => match O.ev k o env σ with
      | some (.ref a, σ) => match O.ev k i env σ with
        | some (.int (.ofNat j), σ) => match σ.at a with
          | some (.list xs) => match small j, nth xs j with
            | true, some v => some (v, σ)
            | _, _ => none
          | _ => none
        | _ => none
      | _ => none
  | .Call f args kws pos => match kws with
    | [] => match Nat.ble args.length 20 with
      | true => match f with
        | .Attribute o name apos => match notCall o, Nat.beq apos.endLine pos.line, O.ev k o env σ with
          | true, true, some (ov, σ) => match methK name ov σ, evL (fun e σ => O.ev k e env σ) args σ with
              | some m, some (vs, σ) => methA m ov vs σ
              | _, _ => none
          | _, _, _ => none
        | _ => match O.ev k f env σ with
          | some (.fn f, σ) => match okFn T f, evL (fun e σ => O.ev k e env σ) args σ with
            | true, some (vs, σ) => O.call k (.fn f) vs σ
            | _, _ => none
          | _ => none
      | false => none
    | _ => none
  | _ => none

def allT (op : BoolOp) (f : Expr → St → Option (Bool × St)) : List Expr → St → Option (Bool × St)
  | [], σ => match op with | .And => some (true, σ) | .Or => some (false, σ)
  | e :: es, σ => match f e σ with
    | some (b, σ) => match op, b with
      | .And, false => some (false, σ)
      | .Or, true => some (true, σ)
      | _, _ => allT op f es σ
    | none => none

def stepTr (O : Ops) (k : Nat) (e : Expr) (env : AEnv) (σ : St) : Option (Bool × St) := match e with
  | .UnaryOp op x _ => match op with
    | .Not => match O.tr k x env σ with
      | some (b, σ) => some (!b, σ)
      | none => none
    | _ => none
  | .BoolOp op vs _ => allT op (fun e σ => O.tr k e env σ) vs σ
  | .IfExp .. => none
  | .Compare l ops cs _ => cmpE O k l ops cs env σ
  | .Call .. => match O.ev k e env σ with
    | some (.bool b, σ) => some (b, σ)
    | _ => none
  | .Name .. => match O.ev k e env σ with
    | some (.bool b, σ) => some (b, σ)
    | _ => none
  | _ => none

/-- the stores are exchanged with the comprehension's own variables let go -/
def usedA (value : Expr) (t : Str) (tpos : Pos) (env : AEnv) : Bool := match value with
  | .ListComp _ _ scope vpos => match lk env.scope.names t with
    | some .local => Nat.beq tpos.line vpos.line && !(scope.names.any fun p => sB p.1 t && (match p.2 with | .local => true | .cell => true | _ => false))
    | _ => false
  | _ => false

def notSD (e : Expr) : Bool := match e with | .SetComp .. => false | .DictComp .. => false | _ => true
def stepEx (T : Tab) (O : Ops) (k : Nat) (st : Stmt) (env : AEnv) (σ : St) : Option (AFlow × St) := match st with
  | .Expr e _ => match e with
    | .Call .. => match O.ev k e env σ with
      | some (.none, σ) => some (.next, σ)
      | _ => none
    | _ => none
  | .Assign ts value _ => match ts with
    | [t] => match t with
      | .Name x px => match notSD value, (match usedA value x px env with | true => compA O k value env σ | false => O.ev k value env σ) with
        | true, some (v, σ) => match storeA env x v σ with
          | some σ => some (.next, σ)
          | none => none
        | _, _ => none
      | .Tuple es _ _ => match es, value with
        | [.Name x px, .Name y py], .Tuple vs _ _ => match vs with
          | [v1, v2] => match lk env.scope.names x, lk env.scope.names y, sB x y, Nat.beq px.line py.line, constantsAlone 8 v1 && constantsAlone 8 v2, foldedForSure 8 v1 && foldedForSure 8 v2, notStar v1 && notStar v2 with
            | some .local, some .local, false, true, false, false, true => match O.ev k value env σ with
              | some (.ref i, σ) => match σ.at i with
                | some (.tup [a, b]) => match storeA env y b σ with
                  | some σ => match storeA env x a σ with
                    | some σ => some (.next, σ)
                    | none => none
                  | none => none
                | _ => none
              | _ => none
            | _, _, _, _, _, _, _ => none
          | _ => none
        | _, _ => none
      | _ => none
    | _ => none
  | .AugAssign t op value _ => match t with
    | .Name x _ => match nameA T env x σ, O.ev k value env σ with
      | some (.int i), some (.int j, σ) => match op with
        | .Add => match storeA env x (.int (i + j)) σ with
          | some σ => some (.next, σ)
          | none => none
        | .Sub => match storeA env x (.int (i - j)) σ with
          | some σ => some (.next, σ)
          | none => none
        | _ => none
      | _, _ => none
    | _ => none
  | .If test b o _ => match O.tr k test env σ with
    | some (true, σ) => O.exs k b env σ
    | some (false, σ) => O.exs k o env σ
    | none => none
  | .While test b o _ => match o with
    | [] => O.whl k test b env σ
    | _ => none
  | .For t it b o _ => match o, notSet it with
    | [], true => match O.ev k it env σ with
      | some (x, σ) => match iterA x σ with
        | some (i, σ) => O.forL k t i b env σ
        | none => none
      | none => none
    | _, _ => none
  | .Return v _ => match v with
    | some e => match O.ev k e env σ with
      | some (v, σ) => some (.ret v, σ)
      | none => none
    | none => none
  | _ => none
def stepExs (O : Ops) (k : Nat) (l : List Stmt) (env : AEnv) (σ : St) : Option (AFlow × St) := match l with
  | [] => some (.next, σ)
  | s :: r => match O.ex k s env σ with
    | some (.next, σ) => O.exs k r env σ
    | x => x
def stepFor (O : Ops) (k : Nat) (t : Expr) (it : Nat) (b : List Stmt) (env : AEnv) (σ : St) : Option (AFlow × St) := match nextA it σ with
  | some (none, σ) => some (.next, σ)
  | some (some v, σ) => match assignA t env v σ with
    | some σ => match O.exs k b env σ with
      | some (.next, σ) => O.forL k t it b env σ
      | some (.cont, σ) => O.forL k t it b env σ
      | some (.brk, σ) => some (.next, σ)
      | some (.ret v, σ) => some (.ret v, σ)
      | none => none
    | none => none
  | none => none
def stepWhl (O : Ops) (k : Nat) (t : Expr) (b : List Stmt) (env : AEnv) (σ : St) : Option (AFlow × St) := match O.tr k t env σ with
  | some (false, σ) => some (.next, σ)
  | some (true, σ) => match O.exs k b env σ with
    | some (.next, σ) => O.whl k t b env σ
    | some (.cont, σ) => O.whl k t b env σ
    | some (.brk, σ) => some (.next, σ)
    | some (.ret v, σ) => some (.ret v, σ)
    | none => none
  | none => none

def testsA (f : Expr → St → Option (Bool × St)) : List Expr → St → Option (Bool × St)
  | [], σ => some (true, σ)
  | e :: es, σ => match f e σ with
    | some (true, σ) => testsA f es σ
    | some (false, σ) => some (false, σ)
    | none => none
def stepComp (O : Ops) (k : Nat) (e : Expr) (d it acc : Nat) (env : AEnv) (σ : St) : Option St := match e with
  | .ListComp elt gens _ _ => match nth gens d with
    | some ⟨t, _, ifs, 0⟩ => match nextA it σ with
      | some (none, σ) => some σ
      | some (some v, σ) => match assignA t env v σ with
        | some σ => match testsA (fun e σ => O.tr k e env σ) ifs σ with
          | some (false, σ) => O.comp k e d it acc env σ
          | some (true, σ) => match nth gens (d + 1) with
            | some ⟨_, iter, _, 0⟩ => match notSet iter, O.ev k iter env σ with
              | true, some (x, σ) => match iterA x σ with
                | some (i, σ) => match O.comp k e (d + 1) i acc env σ with
                  | some σ => O.comp k e d it acc env σ
                  | none => none
                | none => none
              | _, _ => none
            | some _ => none
            | none => match O.ev k elt env σ with
              | some (v, σ) => match σ.at acc with
                | some (.list xs) => match small xs.length with
                  | true => O.comp k e d it acc env (σ.set acc (.list (xs ++ [v])))
                  | false => none
                | _ => none
              | none => none
          | none => none
        | none => none
      | none => none
    | _ => none
  | _ => none

def bindA (f : FnInfo) (args : List AV) : Option (List (Str × AV)) :=
  match Nat.ble args.length f.params.length, Nat.ble f.params.length (args.length + f.dflt.length) with
  | true, true => some (f.params.zip (args ++ f.dflt.drop (f.dflt.length - (f.params.length - args.length))) ++ f.kw)
  | _, _ => none
def stepCall (T : Tab) (O : Ops) (k : Nat) (f : AV) (args : List AV) (σ : St) : Option (AV × St) := match f with
  | .fn .len => match args with
    | [.str x] => match small x.cps.toList.length with
      | true => some (.int (Int.ofNat x.cps.toList.length), σ)
      | false => none
    | [.ref i] => match σ.at i with
      | some (.list xs) => match small xs.length with
        | true => some (.int (Int.ofNat xs.length), σ)
        | false => none
      | _ => none
    | _ => none
  | .fn .range => match args with
    | [.int b] => match smallI b with
      | true => some (alloc (.range 0 b) σ)
      | false => none
    | [.int a, .int b] => match smallI a, smallI b with
      | true, true => some (alloc (.range a b) σ)
      | _, _ => none
    | _ => none
  | .fn .list => match args with
    | [.ref i] => match σ.at i with
      | some (.range a b) => match small (b - a).toNat, smallI a, smallI b with
        | true, true, true => some (alloc (.list (upToZ a (b - a).toNat)) σ)
        | _, _, _ => none
      | _ => none
    | _ => none
  | .fn .sorted => match args with
    | [.ref i] => match σ.at i with
      | some (.list xs) => match toStrs xs with
        | some ys => match Nat.ble ys.length 60 with
          | true => some (alloc (.list ((sortS ys).map .str)) σ)
          | false => none
        | none => none
      | _ => none
    | _ => none
  | .fn (.user i) => match (match Nat.ble 60 k, rdX σ args with | true, some as => T.ext i as | _, _ => none) with
    | some r => match r with
      | .int z => some (.int z, σ)
      | .str x => some (.str x, σ)
      | .bool b => some (.bool b, σ)
      | .ints ns => some (alloc (.list (ns.map .int)) σ)
    | none => match k, T.info i with
      | k + 1, some fi => match bindA fi args with
        | some bs => match mkEnv fi.scope [] σ with
          | (env, σ) => match bindAll env bs σ with
            | some σ => match O.exs k fi.body env σ with
              | some (.ret v, σ) => some (v, σ)
              | some (.next, σ) => some (.none, σ)
              | _ => none
            | none => none
        | none => none
      | _, _ => none
  | _ => none

def step (T : Tab) (O : Ops) : Ops where
  ev := stepEv T O
  tr := stepTr O
  ex := stepEx T O
  exs := stepExs O
  forL := stepFor O
  whl := stepWhl O
  comp := stepComp O
  call := stepCall T O
def bot : Ops := ⟨fun _ _ _ _ => none, fun _ _ _ _ => none, fun _ _ _ _ => none, fun _ _ _ _ => none, fun _ _ _ _ _ _ => none, fun _ _ _ _ _ => none, fun _ _ _ _ _ _ _ => none, fun _ _ _ _ => none⟩
def run (T : Tab) : Nat → Ops
  | 0 => bot
  | n + 1 => step T (run T n)

/-- the program's own defs, by their place in the text's body -/
def defAt (p : Program) (i : Nat) (dflt : List AV) (kw : List (Str × AV)) : Option FnInfo := match nth p.main.body i with
  | some (.FunctionDef _ args body _ _ _ scope _ _ _) => some ⟨args.args.map (·.arg), dflt, kw, body, scope⟩
  | _ => none
end Mine
end

noncomputable section
set_option autoImplicit false
namespace Mine
open PySem

theorem lB_iff : ∀ a b : List Nat, lB a b = true ↔ a = b
  | [], [] => by simp [lB]
  | [], _ :: _ => by simp [lB]
  | _ :: _, [] => by simp [lB]
  | a :: x, b :: y => by
    unfold lB
    cases h : Nat.beq a b with
    | true => have := Nat.eq_of_beq_eq_true h; simp [this, lB_iff x y]
    | false => have := Nat.ne_of_beq_eq_false h; simp [this]
theorem sB_iff {a b : Str} : sB a b = true ↔ a = b := by
  unfold sB
  rw [lB_iff]
  constructor
  · intro h; obtain ⟨⟨x⟩⟩ := a; obtain ⟨⟨y⟩⟩ := b; simp at h; rw [h]
  · intro h; rw [h]
theorem sB_eq (a b : Str) : sB a b = (a == b) := by
  rw [Bool.eq_iff_iff, sB_iff, beq_iff_eq]
theorem sB_false {a b : Str} (h : sB a b = false) : a ≠ b := fun e => by
  have := sB_iff.mpr e; rw [h] at this; cases this
theorem lk_eq {α : Type} (x : Str) : ∀ l : List (Str × α), lk l x = l.lookup x
  | [] => rfl
  | p :: r => by
    obtain ⟨k, v⟩ := p
    unfold lk
    rw [List.lookup_cons, sB_eq, lk_eq x r]
    cases x == k <;> rfl
theorem lk_put {α : Type} (x y : Str) (v : α) : ∀ m : List (Str × α), lk (put m x v) y = if y = x then some v else lk m y
  | [] => by
    unfold put lk
    cases h : sB y x with
    | true => rw [if_pos (sB_iff.mp h)]
    | false => rw [if_neg (sB_false h)]; rfl
  | p :: r => by
    have ih := lk_put x y v r
    unfold put
    cases h : sB x p.1 with
    | true =>
      have e := sB_iff.mp h
      show lk ((p.1, v) :: r) y = _
      unfold lk
      cases h' : sB y p.1 with
      | true => rw [if_pos ((sB_iff.mp h').trans e.symm)]
      | false => rw [if_neg (fun z => sB_false h' (z.trans e))]
    | false =>
      show lk (p :: put r x v) y = _
      unfold lk
      cases h' : sB y p.1 with
      | true => rw [if_neg (fun z => sB_false h ((sB_iff.mp h') ▸ z.symm))]
      | false => exact ih

theorem Tr.get_node {α : Type} (v : Option α) (l r : Tr α) (i : Nat) : (Tr.node v l r).get i = if i = 0 then v else if i % 2 = 1 then l.get (i / 2) else r.get (i / 2 - 1) := by
  show (match Nat.beq i 0 with | true => v | false => match Nat.beq (i % 2) 1 with | true => l.get (i / 2) | false => r.get (i / 2 - 1)) = _
  by_cases h : i = 0
  · simp [h]
  · have : Nat.beq i 0 = false := by cases e : Nat.beq i 0 with | false => rfl | true => exact absurd (Nat.eq_of_beq_eq_true e) h
    rw [this, if_neg h]
    by_cases q : i % 2 = 1
    · simp [q]
    · have : Nat.beq (i % 2) 1 = false := by cases e : Nat.beq (i % 2) 1 with | false => rfl | true => exact absurd (Nat.eq_of_beq_eq_true e) q
      rw [this, if_neg q]
theorem Tr.put_eq {α : Type} (n : Nat) (v : Option α) (l r : Tr α) (i : Nat) (o : α) : Tr.put (n + 1) (.node v l r) i o = if i = 0 then .node (some o) l r else if i % 2 = 1 then .node v (Tr.put n l (i / 2) o) r else .node v l (Tr.put n r (i / 2 - 1) o) := by
  show (match Nat.beq i 0 with | true => _ | false => match Nat.beq (i % 2) 1 with | true => _ | false => _) = _
  by_cases h : i = 0
  · simp [h]
  · have : Nat.beq i 0 = false := by cases e : Nat.beq i 0 with | false => rfl | true => exact absurd (Nat.eq_of_beq_eq_true e) h
    rw [this, if_neg h]
    by_cases q : i % 2 = 1
    · simp [q]
    · have : Nat.beq (i % 2) 1 = false := by cases e : Nat.beq (i % 2) 1 with | false => rfl | true => exact absurd (Nat.eq_of_beq_eq_true e) q
      rw [this, if_neg q]
theorem Tr.put_leaf {α : Type} (n : Nat) (i : Nat) (o : α) : Tr.put (n + 1) (.leaf : Tr α) i o = Tr.put (n + 1) (.node none .leaf .leaf) i o := rfl
theorem Tr.get_put {α : Type} (o : α) : ∀ (n : Nat) (t : Tr α) (i j : Nat), i < n → (Tr.put n t i o).get j = if j = i then some o else t.get j := by
  intro n
  induction n with
  | zero => intro t i j h; exact absurd h (Nat.not_lt_zero _)
  | succ n ih =>
    have node : ∀ (v : Option α) (l r : Tr α) (i j : Nat), i < n + 1 → (Tr.put (n + 1) (.node v l r) i o).get j = if j = i then some o else (Tr.node v l r).get j := by
      intro v l r i j h
      rw [Tr.put_eq]
      by_cases h0 : i = 0
      · subst h0
        rw [if_pos rfl, Tr.get_node, Tr.get_node]
        by_cases q : j = 0 <;> simp [q]
      · rw [if_neg h0]
        by_cases p : i % 2 = 1
        · rw [if_pos p, Tr.get_node, Tr.get_node]
          by_cases q : j = 0
          · subst q; rw [if_pos rfl, if_pos rfl, if_neg (Ne.symm h0)]
          · rw [if_neg q, if_neg q]
            by_cases u : j % 2 = 1
            · rw [if_pos u, if_pos u, ih l _ _ (by omega)]
              by_cases e : j = i
              · rw [if_pos e, if_pos (by rw [e])]
              · rw [if_neg e, if_neg (by omega)]
            · rw [if_neg u, if_neg u, if_neg (show ¬ j = i from fun e => u (by rw [e]; exact p))]
        · rw [if_neg p, Tr.get_node, Tr.get_node]
          by_cases q : j = 0
          · subst q; rw [if_pos rfl, if_pos rfl, if_neg (Ne.symm h0)]
          · rw [if_neg q, if_neg q]
            by_cases u : j % 2 = 1
            · rw [if_pos u, if_pos u, if_neg (show ¬ j = i from fun e => p (by rw [← e]; exact u))]
            · rw [if_neg u, if_neg u, ih r _ _ (by omega)]
              by_cases e : j = i
              · rw [if_pos e, if_pos (by rw [e])]
              · rw [if_neg e, if_neg (by omega)]
    intro t i j h
    cases t with
    | leaf =>
      rw [Tr.put_leaf, node _ _ _ _ _ h]
      by_cases e : j = i
      · rw [if_pos e, if_pos e]
      · rw [if_neg e, if_neg e, Tr.get_node]
        by_cases q : j = 0
        · rw [if_pos q]; rfl
        · rw [if_neg q]; by_cases u : j % 2 = 1 <;> simp [u, Tr.get]
    | node v l r => exact node v l r i j h
theorem St.at_set (σ : St) (i j : Nat) (o : AO) : (σ.set i o).at j = if j = i then some o else σ.at j := Tr.get_put o _ _ _ _ (Nat.lt_succ_self _)
theorem St.at_push (σ : St) (j : Nat) (o : AO) : (σ.push o).at j = if j = σ.n then some o else σ.at j := Tr.get_put o _ _ _ _ (Nat.lt_succ_self _)
theorem St.set_n (σ : St) (i : Nat) (o : AO) : (σ.set i o).n = σ.n := rfl
theorem St.push_n (σ : St) (o : AO) : (σ.push o).n = σ.n + 1 := rfl

/-! The relation. -/
abbrev Map := Nat → Option Addr
def Map.Le (ρ ρ' : Map) : Prop := ∀ i a, ρ i = some a → ρ' i = some a
theorem Map.Le.refl (ρ : Map) : ρ.Le ρ := fun _ _ e => e
theorem Map.Le.trans {a b c : Map} (x : a.Le b) (y : b.Le c) : a.Le c := fun i d e => y i d (x i d e)

def valF (fa : Nat → Addr) : Fn → Value
  | .len => .builtin "len"
  | .sorted => .builtin "sorted"
  | .range => .type "range"
  | .list => .type "list"
  | .enum => .type "enumerate"
  | .user i => .ref (fa i)

section
variable (fa : Nat → Addr)
def RV (ρ : Map) : AV → Value → Prop
  | .none, v => v = .none
  | .bool b, v => v = .bool b
  | .int i, v => ∃ t, v = .int i t
  | .str x, v => ∃ t, v = .str x t
  | .ref i, v => ∃ a, ρ i = some a ∧ v = .ref a
  | .fn f, v => v = valF fa f
  | .any, _ => True
  | .res k a, v => ∃ n t, v = .int n t ∧ Int.fmod n (.ofNat (k + 1)) = a
def RVo (ρ : Map) : Option AV → Option Value → Prop
  | none, none => True
  | some a, some v => RV fa ρ a v
  | _, _ => False
inductive RVs (ρ : Map) : List AV → List Value → Prop
  | nil : RVs ρ [] []
  | cons {a v as vs} : RV fa ρ a v → RVs ρ as vs → RVs ρ (a :: as) (v :: vs)
def listObj (vs : Array Value) (n : Nat) : Obj := { cls := .type "list", dict := none, data := .seq vs n, slots := #[] }
def tupObj (vs : Array Value) (n : Nat) : Obj := { cls := .type "tuple", dict := none, data := .seq vs n, slots := #[] }
def RO (ρ : Map) (ob : Obj) : AO → Prop
  | .list xs => ∃ vs n, ob = listObj vs n ∧ RVs fa ρ xs vs.toList
  | .tup xs => ∃ vs n, ob = tupObj vs n ∧ RVs fa ρ xs vs.toList
  | .ns m => ∃ es ep, ob.data = .dict es ep ∧ StrKeys es ∧ ∀ x, RVo fa ρ (lk m x) (nsFind es x)
  | .cell v => ∃ v', ob.data = .cell v' ∧ RVo fa ρ v v'
  | .liter l i => ∃ al, ρ l = some al ∧ ob.cls = .type "list_iterator" ∧ ob.data = .fields #[.ref al, .int i 0]
  | .range a b => ∃ t u v, ob = { cls := .type "range", dict := none, data := .fields #[.int a t, .int b u, .int 1 v], slots := #[] }
  | .riter x left => ob = { cls := .type "range_iterator", dict := none, data := .fields #[rawInt x, rawInt left, rawInt 1], slots := #[] }
  | .siter x i => ∃ T t, (T = "str_ascii_iterator" ∨ T = "str_iterator") ∧ ob.cls = .type T ∧ ob.data = .fields #[.str x t, .int i 0]
  | .junk => True

variable {fa}
theorem RV.mono {ρ ρ' : Map} (l : ρ.Le ρ') : ∀ {a : AV} {v : Value}, RV fa ρ a v → RV fa ρ' a v
  | .none, _, h => h
  | .bool _, _, h => h
  | .int _, _, h => h
  | .str _, _, h => h
  | .ref _, _, ⟨a, h, e⟩ => ⟨a, l _ _ h, e⟩
  | .fn _, _, h => h
  | .any, _, _ => trivial
  | .res _ _, _, h => h
theorem RVo.mono {ρ ρ' : Map} (l : ρ.Le ρ') : ∀ {a : Option AV} {v : Option Value}, RVo fa ρ a v → RVo fa ρ' a v
  | none, none, _ => trivial
  | some _, some _, h => RV.mono l h
theorem RVs.mono {ρ ρ' : Map} (l : ρ.Le ρ') : ∀ {a : List AV} {v : List Value}, RVs fa ρ a v → RVs fa ρ' a v
  | _, _, .nil => .nil
  | _, _, .cons h r => .cons (h.mono l) (r.mono l)
theorem RO.mono {ρ ρ' : Map} (l : ρ.Le ρ') {ob : Obj} : ∀ {o : AO}, RO fa ρ ob o → RO fa ρ' ob o
  | .list _, ⟨vs, n, e, h⟩ => ⟨vs, n, e, h.mono l⟩
  | .tup _, ⟨vs, n, e, h⟩ => ⟨vs, n, e, h.mono l⟩
  | .ns _, ⟨es, ep, e, k, h⟩ => ⟨es, ep, e, k, fun x => (h x).mono l⟩
  | .cell _, ⟨v', e, h⟩ => ⟨v', e, h.mono l⟩
  | .liter _ _, ⟨al, e, h⟩ => ⟨al, l _ _ e, h⟩
  | .range _ _, h => h
  | .riter _ _, h => h
  | .siter _ _, h => h
  | .junk, _ => trivial
theorem RVs.length {ρ : Map} : ∀ {a : List AV} {v : List Value}, RVs fa ρ a v → v.length = a.length
  | _, _, .nil => rfl
  | _, _, .cons _ r => by simp [r.length]
theorem RVs.append {ρ : Map} : ∀ {a b : List AV} {v w : List Value}, RVs fa ρ a v → RVs fa ρ b w → RVs fa ρ (a ++ b) (v ++ w)
  | _, _, _, _, .nil, h => h
  | _, _, _, _, .cons h r, h' => .cons h (r.append h')
theorem RVs.nth {ρ : Map} : ∀ {a : List AV} {v : List Value}, RVs fa ρ a v → ∀ {i : Nat} {x : AV}, Mine.nth a i = some x → ∃ y, v[i]? = some y ∧ RV fa ρ x y
  | _, _, .nil, _, _, e => by cases e
  | _, _, .cons h r, i, x, e => by
    cases i with
    | zero => cases e; exact ⟨_, rfl, h⟩
    | succ i => exact r.nth (i := i) (x := x) e
theorem RVs.nth_none {ρ : Map} : ∀ {a : List AV} {v : List Value}, RVs fa ρ a v → ∀ {i : Nat}, Mine.nth a i = none → v[i]? = none
  | _, _, .nil, _, _ => by simp
  | _, _, .cons h r, i, e => by
    cases i with
    | zero => cases e
    | succ i => simpa using r.nth_none (i := i) e
def AO.live : AO → Prop
  | .junk => False
  | _ => True
def St.live (σ : St) (i : Nat) : Prop := ∃ o, σ.at i = some o ∧ o.live
variable (fa)
structure Rep (base : Addr → Option Obj) (ρ : Map) (σ : St) (h : Heap) : Prop where
  obj : ∀ i o, σ.at i = some o → o.live → ∃ a ob, ρ i = some a ∧ h.get? a = some ob ∧ RO fa ρ ob o
  inj : ∀ i j a, σ.live i → σ.live j → ρ i = some a → ρ j = some a → i = j
  lt : ∀ i a, ρ i = some a → i < σ.n
  own : ∀ i a, σ.live i → ρ i = some a → base a = none
  keep : ∀ b o, base b = some o → h.get? b = some o
variable {fa}
section
variable {base : Addr → Option Obj} {ρ : Map} {σ : St} {h h' : Heap}
def addM (ρ : Map) (n : Nat) (a : Addr) : Map := fun i => if i = n then some a else ρ i
theorem Rep.le_add (R : Rep fa base ρ σ h) (a : Addr) : ρ.Le (addM ρ σ.n a) := fun i b e => by
  unfold addM
  rw [if_neg (Nat.ne_of_lt (R.lt i b e))]; exact e
theorem addM_self (ρ : Map) (n : Nat) (a : Addr) : addM ρ n a n = some a := by simp [addM]
theorem Rep.alive (R : Rep fa base ρ σ h) {i : Nat} {a : Addr} (l : σ.live i) (e : ρ i = some a) : ∃ ob, h.get? a = some ob := by
  obtain ⟨o, ho, hl⟩ := l
  obtain ⟨a', ob, e', g, _⟩ := R.obj i o ho hl
  rw [e] at e'; cases e'
  exact ⟨ob, g⟩
theorem Rep.getAt (R : Rep fa base ρ σ h) {i : Nat} {o : AO} {a : Addr} (e : σ.at i = some o) (ea : ρ i = some a) (l : o.live := by trivial) : ∃ ob, h.get? a = some ob ∧ RO fa ρ ob o := by
  obtain ⟨a', ob, e', g⟩ := R.obj i o e l
  rw [ea] at e'; cases e'
  exact ⟨ob, g⟩
/-- the heap has grown -/
theorem Rep.grow (R : Rep fa base ρ σ h) (k : ∀ b o, h.get? b = some o → h'.get? b = some o) : Rep fa base ρ σ h' where
  obj i o e l := let ⟨a, ob, e1, e2, e3⟩ := R.obj i o e l; ⟨a, ob, e1, k _ _ e2, e3⟩
  inj := R.inj
  lt := R.lt
  own := R.own
  keep b o e := k b o (R.keep b o e)
/-- one object turns -/
theorem Rep.set (R : Rep fa base ρ σ h) {i : Nat} {a : Addr} {o' : AO} {ob' : Obj} (li : σ.live i) (ea : ρ i = some a) (g : h'.get? a = some ob') (ro : RO fa ρ ob' o') (k : ∀ b o, b ≠ a → h.get? b = some o → h'.get? b = some o) :
    Rep fa base ρ (σ.set i o') h' := by
  have live : ∀ j, (σ.set i o').live j → σ.live j := by
    rintro j ⟨o, e, l⟩
    rw [St.at_set] at e
    by_cases q : j = i
    · exact q ▸ li
    · rw [if_neg q] at e; exact ⟨o, e, l⟩
  exact {
    obj := fun j o e l => by
      rw [St.at_set] at e
      by_cases q : j = i
      · subst q
        rw [if_pos rfl] at e
        cases e
        exact ⟨a, ob', ea, g, ro⟩
      · rw [if_neg q] at e
        obtain ⟨b, ob, e1, e2, e3⟩ := R.obj j o e l
        exact ⟨b, ob, e1, k _ _ (fun z => q (R.inj j i b ⟨o, e, l⟩ li e1 (z ▸ ea))) e2, e3⟩
    inj := fun j m b l1 l2 => R.inj j m b (live j l1) (live m l2)
    lt := R.lt
    own := fun j b l => R.own j b (live j l)
    keep := fun b o e => k b o (fun z => by rw [z, R.own i a li ea] at e; cases e) (R.keep b o e) }
/-- one object is let go -/
theorem Rep.kill (R : Rep fa base ρ σ h) {i : Nat} {a : Addr} (li : σ.live i) (ea : ρ i = some a) (k : ∀ b o, b ≠ a → h.get? b = some o → h'.get? b = some o) :
    Rep fa base ρ (σ.set i .junk) h' := by
  have live : ∀ j, (σ.set i .junk).live j → σ.live j ∧ j ≠ i := by
    rintro j ⟨o, e, l⟩
    rw [St.at_set] at e
    by_cases q : j = i
    · rw [if_pos q] at e; cases e; exact l.elim
    · rw [if_neg q] at e; exact ⟨⟨o, e, l⟩, q⟩
  exact {
    obj := fun j o e l => by
      obtain ⟨l1, q⟩ := live j ⟨o, e, l⟩
      rw [St.at_set, if_neg q] at e
      obtain ⟨b, ob, e1, e2, e3⟩ := R.obj j o e l
      exact ⟨b, ob, e1, k _ _ (fun z => q (R.inj j i b l1 li e1 (z ▸ ea))) e2, e3⟩
    inj := fun j m b l1 l2 => R.inj j m b (live j l1).1 (live m l2).1
    lt := R.lt
    own := fun j b l => R.own j b (live j l).1
    keep := fun b o e => k b o (fun z => by rw [z, R.own i a li ea] at e; cases e) (R.keep b o e) }
/-- a new object -/
theorem Rep.push (R : Rep fa base ρ σ h) {a : Addr} {o' : AO} {ob' : Obj} (na : h.get? a = none) (g : h'.get? a = some ob') (ro : RO fa (addM ρ σ.n a) ob' o') (k : ∀ b o, h.get? b = some o → h'.get? b = some o) :
    Rep fa base (addM ρ σ.n a) (σ.push o') h' := by
  have live : ∀ j, (σ.push o').live j → j ≠ σ.n → σ.live j := by
    rintro j ⟨o, e, l⟩ q
    rw [St.at_push, if_neg q] at e
    exact ⟨o, e, l⟩
  have old : ∀ j b, j ≠ σ.n → addM ρ σ.n a j = some b → ρ j = some b := by
    intro j b q e
    unfold addM at e
    rw [if_neg q] at e; exact e
  have new : ∀ b, addM ρ σ.n a σ.n = some b → b = a := by
    intro b e
    rw [addM_self] at e; cases e; rfl
  exact {
    obj := fun j o e l => by
      rw [St.at_push] at e
      by_cases q : j = σ.n
      · subst q
        rw [if_pos rfl] at e
        cases e
        exact ⟨a, ob', addM_self .., g, ro⟩
      · rw [if_neg q] at e
        obtain ⟨b, ob, e1, e2, e3⟩ := R.obj j o e l
        exact ⟨b, ob, R.le_add a _ _ e1, k _ _ e2, e3.mono (R.le_add a)⟩
    inj := fun i j b l1 l2 e1 e2 => by
      by_cases p : i = σ.n
      · by_cases q : j = σ.n
        · rw [p, q]
        · subst p
          have e1' := new b e1
          subst e1'
          obtain ⟨ob, z⟩ := R.alive (live j l2 q) (old j _ q e2)
          rw [na] at z; cases z
      · by_cases q : j = σ.n
        · subst q
          have e2' := new b e2
          subst e2'
          obtain ⟨ob, z⟩ := R.alive (live i l1 p) (old i _ p e1)
          rw [na] at z; cases z
        · exact R.inj i j b (live i l1 p) (live j l2 q) (old i b p e1) (old j b q e2)
    lt := fun j b e => by
      rw [St.push_n]
      by_cases q : j = σ.n
      · omega
      · exact Nat.lt_succ_of_lt (R.lt j b (old j b q e))
    own := fun j b l e => by
      by_cases q : j = σ.n
      · subst q
        have e' := new b e
        subst e'
        cases z : base b with
        | none => rfl
        | some o => rw [R.keep b o z] at na; cases na
      · exact R.own j b (live j l q) (old j b q e)
    keep := fun b o e => k b o (R.keep b o e) }
end
end
end Mine
end

noncomputable section
set_option autoImplicit false
namespace Mine
open PySem
open PyProof.Rows (AllBare)

/-- generators are added, bare ones -/
def Grows (a b : Array GenState) : Prop := ∃ l : Array GenState, b = a ++ l ∧ AllBare l
theorem Grows.refl (a : Array GenState) : Grows a a := ⟨#[], by simp, .empty⟩
theorem Grows.trans {a b c : Array GenState} (x : Grows a b) (y : Grows b c) : Grows a c := by
  obtain ⟨l, rfl, hl⟩ := x
  obtain ⟨r, rfl, hr⟩ := y
  exact ⟨l ++ r, by rw [Array.append_assoc], fun z hz => (Array.mem_append.mp hz).elim (hl z) (hr z)⟩
theorem Grows.bare {a b : Array GenState} (x : Grows a b) (h : AllBare a) : AllBare b := by
  obtain ⟨l, rfl, hl⟩ := x
  exact fun z hz => (Array.mem_append.mp hz).elim (h z) (hl z)
theorem Grows.at {a b : Array GenState} (x : Grows a b) {g : Nat} {y : GenState} (h : a[g]? = some y) : b[g]? = some y := by
  obtain ⟨l, rfl, hl⟩ := x
  rw [Array.getElem?_append_left (Array.getElem?_eq_some_iff.mp h).1]; exact h
structure Ok (s s' : Shared) : Prop where
  os : s'.os = s.os
  gens : Grows s.gens s'.gens
theorem Ok.refl (s : Shared) : Ok s s := ⟨rfl, .refl _⟩
theorem Ok.trans {a b c : Shared} (x : Ok a b) (y : Ok b c) : Ok a c := ⟨y.os.trans x.os, x.gens.trans y.gens⟩
theorem Ok.heap (s : Shared) (h : Heap) : Ok s { s with heap := h } := ⟨rfl, .refl _⟩
theorem Ok.toks (s : Shared) (h : Heap) (t : Nat) : Ok s { s with heap := h, toks := t } := ⟨rfl, .refl _⟩
theorem Ok.tok (s : Shared) (t : Nat) : Ok s { s with toks := t } := ⟨rfl, .refl _⟩

def Room (A : Around) (k : Nat) : Prop := A.handled = none ∧ A.depth + k < 900 ∧ A.units + 4 * k < 9000

inductive RC (ρ : Map) : List (Str × Nat) → List (Str × Addr) → Prop
  | nil : RC ρ [] []
  | cons {x c a r r'} : ρ c = some a → RC ρ r r' → RC ρ ((x, c) :: r) ((x, a) :: r')
theorem RC.mono {ρ ρ' : Map} (l : ρ.Le ρ') : ∀ {a b}, RC ρ a b → RC ρ' a b
  | _, _, .nil => .nil
  | _, _, .cons h r => .cons (l _ _ h) (r.mono l)
theorem RC.look {ρ : Map} {x : Str} {c : Nat} : ∀ {a b}, RC ρ a b → lk a x = some c → ∃ d, b.lookup x = some d ∧ ρ c = some d
  | _, _, .nil, e => by cases e
  | _, _, .cons (x := y) h r, e => by
    unfold lk at e
    rw [List.lookup_cons]
    cases q : sB x y with
    | true => rw [q] at e; cases e; rw [sB_eq] at q; rw [q]; exact ⟨_, rfl, h⟩
    | false => rw [q] at e; rw [sB_eq] at q; rw [q]; exact r.look e

structure REnv (ρ : Map) (env : AEnv) (ce : Env) : Prop where
  scope : ce.scope = env.scope
  kind : env.scope.kind = .function
  ns : ρ env.ns = some ce.locals
  globals : ce.globals = mainGlobals
  builtins : ce.builtins = builtinsNs
  cells : RC ρ env.cells ce.cells
theorem REnv.mono {ρ ρ' : Map} (l : ρ.Le ρ') {env : AEnv} {ce : Env} (R : REnv ρ env ce) : REnv ρ' env ce := ⟨R.scope, R.kind, l _ _ R.ns, R.globals, R.builtins, R.cells.mono l⟩
theorem REnv.kindOf {ρ : Map} {env : AEnv} {ce : Env} (R : REnv ρ env ce) (x : Str) : ce.kindOf x = lk env.scope.names x := by
  rw [lk_eq]; unfold Env.kindOf; rw [R.scope]

/-- a binding list -/
inductive RB (fa : Nat → Addr) (ρ : Map) : List (Str × AV) → List (Str × Value) → Prop
  | nil : RB fa ρ [] []
  | cons {x a v r r'} : RV fa ρ a v → RB fa ρ r r' → RB fa ρ ((x, a) :: r) ((x, v) :: r')

structure FnOk (prog : Program) (w : World) (fa : Nat → Addr) (h : Heap) (a : Addr) (fi : FnInfo) : Prop where
  ok : ∃ o fd, h.get? a = some o ∧ o.data = .func fd ∧ h.CodeRec fd.code fd.qualname ∧ fd.body = .stmts fi.body ∧ fd.scope = fi.scope ∧ fd.closure = [] ∧ fd.globals = mainGlobals ∧ fd.builtins = builtinsNs ∧
    fd.scope.isCoroutine = false ∧ fd.scope.isGenerator = false ∧ fd.scope.kind = .function ∧
    ∀ avs bs, bindA fi avs = some bs → ∀ ρ vs, RVs fa ρ avs vs → ∃ bvs, RB fa ρ bs bvs ∧
      ∀ (A : Around) (Q : List (Str × Value) → Shared → Prop) (E : Value → Shared → Prop) (s : Shared), (∀ b o, h.get? b = some o → s.heap.get? b = some o) → Q bvs s → wpAny (model prog w) A (bindArgs fd ⟨vs, []⟩) Q E s

structure Stat (prog : Program) (w : World) (fa : Nat → Addr) (T : Tab) (h : Heap) : Prop where
  glob : ∀ x f, T.glob x = some f → ∃ mg mb, h.Ns mainGlobals mg ∧ h.Ns builtinsNs mb ∧ (mg x = some (valF fa f) ∨ (mg x = none ∧ mb x = some (valF fa f)))
  nolimit : h.NoLimit
  fn : ∀ i fi, T.info i = some fi → FnOk prog w fa h (fa i) fi

section
variable {prog : Program} {w : World} {fa : Nat → Addr} {T : Tab} {base : Addr → Option Obj} {A : Around} {E : Value → Shared → Prop} {s : Shared} {ρ : Map} {σ : St} {env : AEnv} {ce : Env}

def PV (fa : Nat → Addr) (base : Addr → Option Obj) (ρ : Map) (σ' : St) (v : AV) (s : Shared) (Q : Value → Shared → Prop) : Prop :=
  ∀ ρ' v' s', ρ.Le ρ' → Ok s s' → Rep fa base ρ' σ' s'.heap → RV fa ρ' v v' → Q v' s'
/-- no value: the store alone -/
def PU (fa : Nat → Addr) (base : Addr → Option Obj) (ρ : Map) (σ' : St) (s : Shared) (Q : Shared → Prop) : Prop :=
  ∀ ρ' s', ρ.Le ρ' → Ok s s' → Rep fa base ρ' σ' s'.heap → Q s'
theorem PV.here {v : AV} {v' : Value} {Q : Value → Shared → Prop} (h : PV fa base ρ σ v s Q) (R : Rep fa base ρ σ s.heap) (r : RV fa ρ v v') : Q v' s := h ρ v' s (.refl _) (.refl _) R r
theorem PV.tok {v : AV} {v' : Value} {Q : Value → Shared → Prop} {t : Nat} (h : PV fa base ρ σ v s Q) (R : Rep fa base ρ σ s.heap) (r : RV fa ρ v v') : Q v' { s with toks := t } := h ρ v' _ (.refl _) (.tok _ _) R r
theorem PV.later {v : AV} {s₁ : Shared} {ρ₁ : Map} {σ' : St} {Q : Value → Shared → Prop} (h : PV fa base ρ σ' v s Q) (l : ρ.Le ρ₁) (o : Ok s s₁) : PV fa base ρ₁ σ' v s₁ Q :=
  fun ρ' v' s' l' o' R r => h ρ' v' s' (l.trans l') (o.trans o') R r
theorem PU.later {s₁ : Shared} {ρ₁ : Map} {σ' : St} {Q : Shared → Prop} (h : PU fa base ρ σ' s Q) (l : ρ.Le ρ₁) (o : Ok s s₁) : PU fa base ρ₁ σ' s₁ Q :=
  fun ρ' s' l' o' R => h ρ' s' (l.trans l') (o.trans o') R

/-! objects out of the relation -/
theorem Rep.ns (R : Rep fa base ρ σ s.heap) {i : Nat} {m : List (Str × AV)} {a : Addr} (e : σ.at i = some (.ns m)) (ea : ρ i = some a) :
    ∃ f, s.heap.Ns a f ∧ ∀ x, RVo fa ρ (lk m x) (f x) := by
  obtain ⟨ob, g, es, ep, hd, hk, hx⟩ := R.getAt e ea
  exact ⟨_, ⟨ob, es, ep, g, hd, hk, fun _ => rfl⟩, hx⟩
theorem RO.of_ns {h : Heap} {a : Addr} {f : Str → Option Value} {m : List (Str × AV)} (n : h.Ns a f) (hx : ∀ x, RVo fa ρ (lk m x) (f x)) : ∃ ob, h.get? a = some ob ∧ RO fa ρ ob (.ns m) := by
  obtain ⟨o, es, ep, g, hd, hk, hf⟩ := n
  exact ⟨o, g, es, ep, hd, hk, fun x => by rw [hf]; exact hx x⟩
theorem Rep.cell (R : Rep fa base ρ σ s.heap) {i : Nat} {v : Option AV} {a : Addr} (e : σ.at i = some (.cell v)) (ea : ρ i = some a) : ∃ v', s.heap.IsCell a v' ∧ RVo fa ρ v v' := by
  obtain ⟨ob, g, v', hd, hv⟩ := R.getAt e ea
  exact ⟨v', ⟨ob, g, hd⟩, hv⟩
theorem RVo.some {a : AV} {v : Option Value} (h : RVo fa ρ (some a) v) : ∃ v', v = some v' ∧ RV fa ρ a v' := by
  cases v with
  | none => exact h.elim
  | some v' => exact ⟨v', rfl, h⟩
theorem Rep.list (R : Rep fa base ρ σ s.heap) {i : Nat} {xs : List AV} {a : Addr} (e : σ.at i = some (.list xs)) (ea : ρ i = some a) :
    ∃ vs n, s.heap.get? a = some (listObj vs n) ∧ RVs fa ρ xs vs.toList := by
  obtain ⟨ob, g, vs, n, e, h⟩ := R.getAt e ea
  exact ⟨vs, n, e ▸ g, h⟩
theorem isList {h : Heap} {a : Addr} {vs : Array Value} {n : Nat} (g : h.get? a = some (listObj vs n)) : h.IsList a vs := ⟨_, g, rfl, n, rfl⟩
theorem isTup {h : Heap} {a : Addr} {vs : Array Value} {n : Nat} (g : h.get? a = some (tupObj vs n)) : h.IsTuple a vs := ⟨_, g, rfl, n, rfl⟩
/-- the next free address -/
theorem fresh (h : Heap) : h.get? h.objs.size = none := by
  cases e : h.get? h.objs.size with
  | none => rfl
  | some o => exact absurd (Heap.lt_size e) (Nat.lt_irrefl _)

/-! names -/
theorem load_snd {x : Str} {v : AV} {Q : Value → Shared → Prop} (S : Stat prog w fa T s.heap) (R : Rep fa base ρ σ s.heap) (RE : REnv ρ env ce) (e : nameA T env x σ = some v)
    (h : PV fa base ρ σ v s Q) : wpAny (model prog w) A (loadName ce x) Q E s := by
  unfold nameA at e
  split at e
  · cases e
  rename_i hd
  have hk : ce.scope.kind = .function := by rw [RE.scope]; exact RE.kind
  split at e
  · rename_i hl
    rw [← RE.kindOf] at hl
    split at e
    · rename_i m hm
      obtain ⟨f, hn, hx⟩ := R.ns hm RE.ns
      obtain ⟨v', e1, e2⟩ := RVo.some (e ▸ hx x)
      exact wpAny_loadName_local hk hl hn e1 (h.here R e2)
    · cases e
  · rename_i hl
    rw [← RE.kindOf] at hl
    split at e
    · rename_i c hc
      obtain ⟨d, e1, e2⟩ := RE.cells.look hc
      split at e
      · rename_i v0 hv
        cases e
        obtain ⟨v', i1, i2⟩ := R.cell hv e2
        obtain ⟨v'', rfl, i3⟩ := RVo.some i2
        exact wpAny_loadName_cell hk hl e1 i1 (h.here R i3)
      · cases e
    · cases e
  · rename_i hl
    rw [← RE.kindOf] at hl
    split at e
    · cases e
    rename_i hcd
    split at e
    · rename_i c hc
      obtain ⟨d, e1, e2⟩ := RE.cells.look hc
      split at e
      · rename_i v0 hv
        cases e
        obtain ⟨v', i1, i2⟩ := R.cell hv e2
        obtain ⟨v'', rfl, i3⟩ := RVo.some i2
        exact wpAny_loadName_free hk hl e1 i1 (h.here R i3) (by rw [← sB_eq]; exact hcd)
      · cases e
    · cases e
  · rename_i hl
    rw [← RE.kindOf] at hl
    obtain ⟨f, hf, rfl⟩ := Option.map_eq_some_iff.mp e
    obtain ⟨mg, mb, hg, hb, hc⟩ := S.glob x f hf
    have key : wpAny (model prog w) A (loadGlobal ce x) Q E s := by
      rcases hc with hc | ⟨hc, hc'⟩
      · exact Calls.loadGlobal_global (by rw [RE.globals]; exact hg) hc (h.here R rfl)
      · exact Calls.loadGlobal_builtin (by rw [RE.globals]; exact hg) hc (by rw [RE.builtins]; exact hb) hc' (h.here R rfl)
    unfold loadName
    simp only [Env.blockKind, hk, hl, ScopeKind.isAnnotationScope, Bool.false_and, Bool.false_eq_true, if_false]
    exact key
  · cases e

theorem name_snd {x : Str} {pos : Pos} {v : AV} {Q : Value → Shared → Prop} (S : Stat prog w fa T s.heap) (R : Rep fa base ρ σ s.heap) (RE : REnv ρ env ce) (e : nameA T env x σ = some v)
    (h : PV fa base ρ σ v s Q) : wpAny (model prog w) A (eval (.Name x pos) ce) Q E s := by
  refine wpAny_Name (load_snd S R RE e h) ?_
  unfold nameA at e
  split at e
  · cases e
  rename_i hd
  rw [← sB_eq]; exact hd

theorem store_snd {x : Str} {v : AV} {v' : Value} {σ' : St} {Q : Unit → Shared → Prop} (R : Rep fa base ρ σ s.heap) (RE : REnv ρ env ce) (e : storeA env x v σ = some σ') (rv : RV fa ρ v v')
    (h : ∀ s', Ok s s' → Rep fa base ρ σ' s'.heap → Q () s') : wpAny (model prog w) A (storeName ce x v') Q E s := by
  unfold storeA at e
  have hk : ce.scope.kind = .function := by rw [RE.scope]; exact RE.kind
  split at e
  · rename_i hl
    rw [← RE.kindOf] at hl
    split at e
    · rename_i m hm
      cases e
      obtain ⟨f, hn, hx⟩ := R.ns hm RE.ns
      refine wpAny_storeName_local hl hn (fun h' hn' hs' => ?_) (by rw [hk]; rfl)
      obtain ⟨ob, g, ro⟩ := RO.of_ns (fa := fa) (ρ := ρ) (m := put m x v) hn' (fun y => by
        rw [lk_put]
        by_cases q : y = x
        · rw [if_pos q, if_pos q]; exact rv
        · rw [if_neg q, if_neg q]; exact hx y)
      exact h _ (.toks _ _ _) (R.set ⟨_, hm, trivial⟩ RE.ns g ro fun b o hb e => hs'.extBut b o hb e)
    · cases e
  · rename_i hl
    rw [← RE.kindOf] at hl
    split at e
    · rename_i c hc
      obtain ⟨d, e1, e2⟩ := RE.cells.look hc
      split at e
      · rename_i v0 hv
        cases e
        obtain ⟨v0', i1, i2⟩ := R.cell hv e2
        refine wpAny_storeName_cell hk hl e1 i1 (fun h' hc' hs' => ?_)
        obtain ⟨ob, g, hd⟩ := hc'
        exact h _ (.heap _ _) (R.set ⟨_, hv, trivial⟩ e2 g ⟨_, hd, rv⟩ fun b o hb e => hs'.extBut b o hb e)
      · cases e
    · cases e
  · cases e
end
end Mine
end

noncomputable section
set_option autoImplicit false
namespace Mine
open PySem
open PyProof.Rows (AllBare)

theorem small_le {n : Nat} (h : small n = true) : n ≤ 100000 := Nat.le_of_ble_eq_true h
theorem line_ge {n : Nat} (h : n ≤ 300000) : n ≤ sizeLine := by unfold sizeLine; omega
theorem smallI_le {i : Int} (h : smallI i = true) : i.natAbs ≤ 1000000001 := by
  cases i with
  | ofNat n => have := Nat.le_of_ble_eq_true h; show n ≤ _; omega
  | negSucc n => have := Nat.le_of_ble_eq_true h; show n + 1 ≤ _; omega
theorem ltL_iff : ∀ a b : List Nat, ltL a b = decide (a < b)
  | [], [] => by simp [ltL]
  | [], _ :: _ => by simp [ltL]
  | _ :: _, [] => by simp [ltL]
  | a :: x, b :: y => by
    unfold ltL
    cases h : Nat.blt a b with
    | true =>
      have : a < b := Nat.le_of_ble_eq_true h
      simp [List.cons_lt_cons_iff, this]
    | false =>
      have h1 : ¬ a < b := fun z => by
        have : Nat.blt a b = true := Nat.ble_eq_true_of_le z
        rw [h] at this; cases this
      cases q : Nat.beq a b with
      | true =>
        have := Nat.eq_of_beq_eq_true q
        simp [this, ltL_iff x y]
      | false =>
        have := Nat.ne_of_beq_eq_false q
        simp [this, List.cons_lt_cons_iff, h1]
theorem sApp_eq (x y : Str) : sApp x y = x ++ y := by
  obtain ⟨⟨a⟩⟩ := x; obtain ⟨⟨b⟩⟩ := y
  show (⟨⟨a ++ b⟩⟩ : Str) = ⟨⟨a⟩ ++ ⟨b⟩⟩
  simp
theorem str_len (x : Str) : x.length = x.cps.toList.length := by
  show x.cps.size = _
  simp

section
variable {prog : Program} {w : World} {fa : Nat → Addr} {T : Tab} {base : Addr → Option Obj} {A : Around} {E : Value → Shared → Prop} {s : Shared} {ρ : Map} {σ : St} {env : AEnv} {ce : Env} {k : Nat}

theorem Rep.pushed {h : Heap} (R : Rep fa base ρ σ h) (ob : Obj) {o' : AO} (ro : RO fa (addM ρ σ.n h.objs.size) ob o') (hf : ob.isFreed = false := by rfl) : Rep fa base (addM ρ σ.n h.objs.size) (σ.push o') (h.push ob) :=
  R.push (fresh h) (Heap.get?_push_size h hf) ro fun _ _ e => Heap.get?_push_of_some _ e
theorem PV.alloc {o : AO} {ob : Obj} {tk : Nat} {Q : Value → Shared → Prop} (h : PV fa base ρ (σ.push o) (.ref σ.n) s Q) (R : Rep fa base ρ σ s.heap) (ro : RO fa (addM ρ σ.n s.heap.objs.size) ob o) (hf : ob.isFreed = false := by rfl) :
    Q (.ref s.heap.objs.size) { s with heap := s.heap.push ob, toks := tk } :=
  h _ _ _ (R.le_add _) (.toks _ _ _) (R.pushed ob ro hf) ⟨_, addM_self .., rfl⟩

theorem bin_snd {op : Operator} {a b v : AV} {a' b' : Value} {σ' : St} {Q : Value → Shared → Prop} (R : Rep fa base ρ σ s.heap) (e : binA op a b σ = some (v, σ')) (ra : RV fa ρ a a') (rb : RV fa ρ b b')
    (h : PV fa base ρ σ' v s Q) : wpAny (model prog w) A (binaryOp op a' b') Q E s := by
  unfold binA at e
  split at e
  · -- Add
    split at e
    · obtain ⟨t, rfl⟩ := ra
      obtain ⟨u, rfl⟩ := rb
      cases e
      exact wpAny_add_int (h.tok R ⟨_, rfl⟩)
    · obtain ⟨t, rfl⟩ := ra
      obtain ⟨u, rfl⟩ := rb
      split at e
      · rename_i x y h1 h2
        cases e
        have := small_le h1
        have := small_le h2
        exact PyProof.Rows.add_str (fun t' tk => h.tok R ⟨_, by rw [sApp_eq]⟩) (line_ge (by rw [str_len, str_len]; omega))
      · cases e
    · obtain ⟨a1, ea, rfl⟩ := ra
      obtain ⟨b1, eb, rfl⟩ := rb
      split at e
      · rename_i xs ys hx hy
        split at e
        · rename_i h1 h2
          cases e
          obtain ⟨vs, n, g, r⟩ := R.list hx ea
          obtain ⟨us, m, g', r'⟩ := R.list hy eb
          have l1 := r.length
          have l2 := r'.length
          have := small_le h1
          have := small_le h2
          simp at l1 l2
          refine P.add_list g g' (h.alloc (ob := listObj (vs ++ us) 0) R ⟨_, _, rfl, ?_⟩) (line_ge (by omega))
          rw [Array.toList_append]
          exact ((r.mono (R.le_add _)).append (r'.mono (R.le_add _)))
        · cases e
      · cases e
    · cases e
  · -- Sub
    split at e
    · obtain ⟨t, rfl⟩ := ra
      obtain ⟨u, rfl⟩ := rb
      cases e
      exact P.sub_int (h.tok R ⟨_, rfl⟩)
    · cases e
  · -- Mult
    split at e
    · obtain ⟨t, rfl⟩ := ra
      obtain ⟨u, rfl⟩ := rb
      split at e
      · rename_i i j x y h1 h2
        cases e
        have b1 := smallI_le h1
        exact P.mul_int (h.tok R ⟨_, rfl⟩) (.of_left (by
          unfold Builtin.Int.intBits
          split
          · omega
          · rename_i hz
            have : i.natAbs ≠ 0 := by simpa using hz
            have := (Nat.log2_lt (k := 40) this).mpr (by omega)
            omega))
      · cases e
    · cases e
  · -- FloorDiv
    split at e
    · obtain ⟨t, rfl⟩ := ra
      obtain ⟨u, rfl⟩ := rb
      split at e
      · cases e
        exact PyProof.Rows.floordiv_int (by decide) (h.tok R ⟨_, rfl⟩) (.inl (PyProof.noPylong_small (by decide)))
      · cases e
    · cases e
  · -- Mod
    split at e
    · obtain ⟨t, rfl⟩ := ra
      obtain ⟨u, rfl⟩ := rb
      split at e
      · rename_i i j n h1
        cases e
        exact PyProof.Rows.mod_int (by intro z; cases z) (h.tok R ⟨_, rfl⟩)
      · cases e
    · obtain ⟨m, t, rfl, hm⟩ := ra
      obtain ⟨u, rfl⟩ := rb
      split at e
      · split at e
        · rename_i hq
          cases e
          obtain rfl := Nat.eq_of_beq_eq_true hq
          exact PyProof.Rows.mod_int (by intro z; cases z) (h.tok R ⟨_, by rw [← hm]⟩)
        · cases e
      · cases e
    · cases e
  · cases e

/-! comparing -/
theorem eqP_at {a b : AV} {a' b' : Value} {r : Bool} {A' : Around} (e : eqP a b = some r) (ra : RV fa ρ a a') (rb : RV fa ρ b b') : SeqAt.EqAt A' s a' b' r := by
  unfold eqP at e
  split at e
  · obtain ⟨t, rfl⟩ := ra
    obtain ⟨u, rfl⟩ := rb
    cases e
    exact SeqAt.EqAt.int_int _ _ _ _
  · obtain ⟨t, rfl⟩ := ra
    obtain ⟨u, rfl⟩ := rb
    cases e
    rw [sB_eq]
    exact SeqAt.EqAt.str_str _ _ _ _
  · cases e
/-- the pairs' answers of two lists of one length -/
theorem eqAll_at {A' : Around} : ∀ {xs ys : List AV} {vs us : List Value} {r : Bool}, eqAll xs ys = some r → RVs fa ρ xs vs → RVs fa ρ ys us →
    (vs.length = us.length → ∃ f : Nat → Bool, (∀ j (h1 : j < vs.length) (h2 : j < us.length), SeqAt.EqAt A' s vs[j] us[j] (f j)) ∧ (List.range vs.length).all f = r) ∧ (vs.length ≠ us.length → r = false)
  | [], [], _, _, r, e, .nil, .nil => by
    cases e
    exact ⟨fun _ => ⟨fun _ => true, (fun j h1 _ => absurd h1 (Nat.not_lt_zero _)), by simp⟩, fun h => absurd rfl h⟩
  | [], _ :: _, _, _, r, e, .nil, .cons _ _ => by
    cases e
    exact ⟨fun h => by simp at h, fun _ => rfl⟩
  | _ :: _, [], _, _, r, e, .cons _ _, .nil => by
    cases e
    exact ⟨fun h => by simp at h, fun _ => rfl⟩
  | a :: x, b :: y, _, _, r, e, .cons (v := v) (vs := vs) ra rx, .cons (v := u) (vs := us) rb ry => by
    unfold eqAll at e
    split at e
    · rename_i p q h1 h2
      cases e
      have ih := eqAll_at (A' := A') h2 rx ry
      constructor
      · intro hl
        obtain ⟨f, hf, hr⟩ := ih.1 (by simpa using hl)
        refine ⟨fun j => match j with | 0 => p | j + 1 => f j, ?_, ?_⟩
        · intro j j1 j2
          cases j with
          | zero => exact eqP_at h1 ra rb
          | succ j => exact hf j (by simpa using j1) (by simpa using j2)
        · rw [List.length_cons, List.range_succ_eq_map, List.all_cons, List.all_map]
          exact congrArg (p && ·) hr
      · intro hl
        rw [ih.2 (fun z => hl (by simp [z])), Bool.and_false]
    · cases e
def eqV (v : AV) (y : Value) : Bool := match v, y with
  | .int i, .int j _ => j == i
  | .str x, .str y _ => y == x
  | _, _ => false
theorem eqP_eqV {a v : AV} {u : Value} {p : Bool} (e : eqP a v = some p) (ra : RV fa ρ a u) : eqV v u = p := by
  unfold eqP at e
  split at e
  · obtain ⟨t, rfl⟩ := ra
    cases e
    show (_ == _) = decide _
    rw [Bool.eq_iff_iff]; simp
  · obtain ⟨t, rfl⟩ := ra
    cases e
    rw [sB_eq]; rfl
  · cases e
theorem anyEq_at {A' : Around} {v : AV} {v' : Value} (rv : RV fa ρ v v') : ∀ {xs : List AV} {vs : List Value} {r : Bool}, anyEq v xs = some r → RVs fa ρ xs vs →
    (∀ y, y ∈ vs → SeqAt.EqAt A' s y v' (eqV v y)) ∧ vs.any (eqV v) = r
  | [], _, r, e, .nil => by cases e; exact ⟨fun _ h => (nomatch h), rfl⟩
  | a :: x, _, r, e, .cons (v := u) (vs := us) ra rx => by
    unfold anyEq at e
    split at e
    · rename_i p q h1 h2
      cases e
      obtain ⟨hf, hr⟩ := anyEq_at rv h2 rx
      have hu := eqP_eqV h1 ra
      refine ⟨fun y hy => ?_, ?_⟩
      · rcases List.mem_cons.mp hy with rfl | hy
        · rw [hu]; exact eqP_at h1 ra rv
        · exact hf y hy
      · rw [List.any_cons, hu, hr]
    · cases e

theorem Room.units (h : Room A k) : A.units < cLine := by
  obtain ⟨_, _, h⟩ := h
  unfold cLine; omega
theorem Room.in1 (h : Room A (k + 1)) : Room A.in1 k := by
  obtain ⟨h1, h2, h3⟩ := h
  exact ⟨h1, by show A.depth + k < 900; omega, by show A.units + 1 + 4 * k < 9000; omega⟩

theorem eqA_snd {a b : AV} {a' b' : Value} {r : Bool} {Q : Value → Shared → Prop} (hr : Room A k) (R : Rep fa base ρ σ s.heap) (e : eqA a b σ = some r) (ra : RV fa ρ a a') (rb : RV fa ρ b b') (h : Q (.bool r) s) :
    wpAny (model prog w) A (compareOp .Eq a' b') Q E s := by
  unfold eqA at e
  split at e
  · obtain ⟨t, rfl⟩ := ra
    obtain ⟨u, rfl⟩ := rb
    cases e
    exact P.eq_int h
  · obtain ⟨t, rfl⟩ := ra
    obtain ⟨u, rfl⟩ := rb
    cases e
    rw [sB_eq] at h
    exact PyProof.Rows.eq_str h
  · cases ra; cases rb; cases e
    exact PyProof.Rows.eq_bool h
  · obtain ⟨a1, ea, rfl⟩ := ra
    obtain ⟨b1, eb, rfl⟩ := rb
    split at e
    · rename_i xs ys hx hy
      obtain ⟨vs, n, g, r1⟩ := R.list hx ea
      obtain ⟨us, m, g', r2⟩ := R.list hy eb
      have key := eqAll_at (s := s) (A' := A.in1) e r1 r2
      by_cases hl : vs.toList.length = us.toList.length
      · obtain ⟨f, hf, hr'⟩ := key.1 hl
        refine SeqAt.eq_listAt (isList g) (isList g') (by simpa using hl) hr.units (fun j h1 h2 => ?_) (e := f) ?_
        · have z := hf j (by simpa using h1) (by simpa using h2)
          rw [Array.getElem_toList, Array.getElem_toList] at z; exact z
        · rw [show (List.range vs.size).all f = r by simpa using hr']; exact h
      · refine SeqAt.eq_list_lengthsAt (isList g) (isList g') (by simpa using hl) hr.units ?_
        rw [← key.2 hl]; exact h
    · cases e
  · cases e
theorem neA_snd {a b : AV} {a' b' : Value} {r : Bool} {Q : Value → Shared → Prop} (hr : Room A k) (R : Rep fa base ρ σ s.heap) (e : eqA a b σ = some r) (ra : RV fa ρ a a') (rb : RV fa ρ b b') (h : Q (.bool (!r)) s) :
    wpAny (model prog w) A (compareOp .NotEq a' b') Q E s := by
  unfold eqA at e
  split at e
  · obtain ⟨t, rfl⟩ := ra
    obtain ⟨u, rfl⟩ := rb
    cases e
    exact P.ne_int h
  · obtain ⟨t, rfl⟩ := ra
    obtain ⟨u, rfl⟩ := rb
    cases e
    rw [sB_eq] at h
    exact PyProof.Rows.ne_str h
  · cases ra; cases rb; cases e
    exact PyProof.Rows.ne_bool h
  · obtain ⟨a1, ea, rfl⟩ := ra
    obtain ⟨b1, eb, rfl⟩ := rb
    split at e
    · rename_i xs ys hx hy
      obtain ⟨vs, n, g, r1⟩ := R.list hx ea
      obtain ⟨us, m, g', r2⟩ := R.list hy eb
      have key := eqAll_at (s := s) (A' := A.in1) e r1 r2
      by_cases hl : vs.toList.length = us.toList.length
      · obtain ⟨f, hf, hr'⟩ := key.1 hl
        refine SeqAt.RcNeAt.lists (isList g) (isList g') (by simpa using hl) hr.units (fun j h1 h2 => ?_) (e := f) prog w E Q ?_
        · have z := hf j (by simpa using h1) (by simpa using h2)
          rw [Array.getElem_toList, Array.getElem_toList] at z; exact z
        · rw [show (List.range vs.size).all f = r by simpa using hr']; exact h
      · refine SeqAt.RcNeAt.lists_lengths (isList g) (isList g') (by simpa using hl) hr.units prog w E Q ?_
        rw [key.2 hl] at h; exact h
    · cases e
  · cases e
theorem cmp_snd {op : CmpOp} {a b : AV} {a' b' : Value} {r : Bool} {Q : Value → Shared → Prop} (hr : Room A k) (R : Rep fa base ρ σ s.heap) (e : cmpA op a b σ = some r) (ra : RV fa ρ a a') (rb : RV fa ρ b b') (h : Q (.bool r) s) :
    wpAny (model prog w) A (compareOp op a' b') Q E s := by
  unfold cmpA at e
  split at e
  · exact eqA_snd hr R e ra rb h
  · obtain ⟨q, hq, rfl⟩ := Option.map_eq_some_iff.mp e
    exact neA_snd hr R hq ra rb h
  · split at e
    · obtain ⟨t, rfl⟩ := ra
      obtain ⟨u, rfl⟩ := rb
      cases e
      exact P.lt_int h
    · obtain ⟨t, rfl⟩ := ra
      obtain ⟨u, rfl⟩ := rb
      cases e
      rw [ltL_iff] at h
      exact PyProof.Rows.lt_str h
    · cases e
  · split at e
    · obtain ⟨b1, eb, rfl⟩ := rb
      split at e
      · rename_i xs hx
        obtain ⟨q, hq, rfl⟩ := Option.map_eq_some_iff.mp e
        obtain ⟨vs, n, g, r1⟩ := R.list hx eb
        obtain ⟨hf, hr'⟩ := anyEq_at (s := s) (A' := A.in1) ra hq r1
        refine SeqAt.notIn_listAt (eqV a) (isList g) (fun y hy => hf y (by simpa using hy)) ?_
        rw [show vs.any (eqV a) = q by rw [← hr']; simp]; exact h
      · cases e
    · obtain ⟨u, rfl⟩ := rb
      split at e
      · obtain ⟨t, rfl⟩ := ra
        cases e
        exact P.notIn_str h
      · cases e
    · cases e
  · split at e
    · cases rb
      split at e
      · cases ra; cases e; exact is_none h
      · cases ra; cases e; exact is_none h
      · obtain ⟨t, rfl⟩ := ra; cases e; exact is_none h
      · obtain ⟨t, rfl⟩ := ra; cases e; exact is_none h
      · obtain ⟨t, _, rfl⟩ := ra; cases e; exact is_none h
      · cases e
    · cases e
  · cases e

end
end Mine
end

noncomputable section
set_option autoImplicit false
namespace Mine
open PySem
open PyProof.Rows (AllBare)

/-- what the jobs' soundness says -/
structure Snd (prog : Program) (w : World) (fa : Nat → Addr) (base : Addr → Option Obj) (O : Ops) : Prop where
  ev : ∀ {k e env σ v σ'}, O.ev k e env σ = some (v, σ') → ∀ {A E s ρ ce Q}, Room A k → Rep fa base ρ σ s.heap → REnv ρ env ce → PV fa base ρ σ' v s Q → wpAny (model prog w) A (eval e ce) Q E s
  tr : ∀ {k e env σ b σ'}, O.tr k e env σ = some (b, σ') → ∀ {A E s ρ ce Q}, Room A k → Rep fa base ρ σ s.heap → REnv ρ env ce → PU fa base ρ σ' s (Q b) → wpAny (model prog w) A (isTrue e ce (eval e ce)) Q E s
  ex : ∀ {k st env σ f σ'}, O.ex k st env σ = some (f, σ') → ∀ {A E s ρ ce} {Q : Flow → Shared → Prop}, Room A k → Rep fa base ρ σ s.heap → REnv ρ env ce →
    (∀ ρ' s' f', ρ.Le ρ' → Ok s s' → Rep fa base ρ' σ' s'.heap → (match f with | .next => f' = .next | .brk => f' = .brk | .cont => f' = .cont | .ret v => ∃ v', f' = .ret v' ∧ RV fa ρ' v v') → Q f' s') → wpAny (model prog w) A (exec st ce) Q E s
  exs : ∀ {k l env σ f σ'}, O.exs k l env σ = some (f, σ') → ∀ {A E s ρ ce} {Q : Flow → Shared → Prop}, Room A k → Rep fa base ρ σ s.heap → REnv ρ env ce →
    (∀ ρ' s' f', ρ.Le ρ' → Ok s s' → Rep fa base ρ' σ' s'.heap → (match f with | .next => f' = .next | .brk => f' = .brk | .cont => f' = .cont | .ret v => ∃ v', f' = .ret v' ∧ RV fa ρ' v v') → Q f' s') → wpAny (model prog w) A (execs l ce) Q E s
  forL : ∀ {k t it b env σ f σ'}, O.forL k t it b env σ = some (f, σ') → ∀ {A s ρ ce a} {R : Result → Shared → Prop}, Room A k → Rep fa base ρ σ s.heap → REnv ρ env ce → ρ it = some a →
    (∀ ρ' s' f', ρ.Le ρ' → Ok s s' → Rep fa base ρ' σ' s'.heap → (match f with | .next => f' = .next | .brk => f' = .brk | .cont => f' = .cont | .ret v => ∃ v', f' = .ret v' ∧ RV fa ρ' v v') → R (.ok f') s') → codeAny (model prog w) A (.forLoop t (.ref a) b [] ce) R s
  whl : ∀ {k t b env σ f σ'}, O.whl k t b env σ = some (f, σ') → ∀ {A s ρ ce} {R : Result → Shared → Prop}, Room A k → Rep fa base ρ σ s.heap → REnv ρ env ce →
    (∀ ρ' s' f', ρ.Le ρ' → Ok s s' → Rep fa base ρ' σ' s'.heap → (match f with | .next => f' = .next | .brk => f' = .brk | .cont => f' = .cont | .ret v => ∃ v', f' = .ret v' ∧ RV fa ρ' v v') → R (.ok f') s') → codeAny (model prog w) A (.whileLoop t b [] ce) R s
  comp : ∀ {k e d it acc env σ σ'}, O.comp k e d it acc env σ = some σ' → ∀ {A s ρ ce a c} {R : Result → Shared → Prop}, Room A k → Rep fa base ρ σ s.heap → REnv ρ env ce → ρ it = some a → ρ acc = some c →
    (∀ ρ' s', ρ.Le ρ' → Ok s s' → Rep fa base ρ' σ' s'.heap → R (.ok .next) s') → codeAny (model prog w) A (.compLoop e d (.ref a) (.ref c) ce) R s
  call : ∀ {k f args σ v σ'}, O.call k f args σ = some (v, σ') → ∀ {A E s ρ f' args' Q}, Room A k → Rep fa base ρ σ s.heap → RV fa ρ f f' → RVs fa ρ args args' → PV fa base ρ σ' v s Q → wpAny (model prog w) A (call f' args') Q E s

def FlowOk (fa : Nat → Addr) (ρ : Map) (f : AFlow) (f' : Flow) : Prop := match f with | .next => f' = .next | .brk => f' = .brk | .cont => f' = .cont | .ret v => ∃ v', f' = .ret v' ∧ RV fa ρ v v'

section
variable {prog : Program} {w : World} {fa : Nat → Addr} {T : Tab} {base : Addr → Option Obj} {A : Around} {E : Value → Shared → Prop} {s : Shared} {ρ : Map} {σ : St} {env : AEnv} {ce : Env} {k : Nat} {O : Ops}

theorem bot_snd : Snd prog w fa base bot where
  ev := fun e => by cases e
  tr := fun e => by cases e
  ex := fun e => by cases e
  exs := fun e => by cases e
  forL := fun e => by cases e
  whl := fun e => by cases e
  comp := fun e => by cases e
  call := fun e => by cases e

theorem rangeSize_one (a b : Int) : Builtin.Range.rangeSize a b 1 = if a < b then b - a else 0 := by
  unfold Builtin.Range.rangeSize
  rw [if_pos (by decide)]
  split
  · rw [Int.ediv_one]; omega
  · rfl
theorem range_small {a b : Int} (ha : smallI a = true) (hb : smallI b = true) : Builtin.Range.small a b 1 = true := by
  have h1 := smallI_le ha
  have h2 := smallI_le hb
  unfold Builtin.Range.small
  rw [rangeSize_one]
  have fit : ∀ x : Int, -9000000000 ≤ x → x ≤ 9000000000 → Builtin.Range.rangeFitsLong x = true := by
    intro x l u
    unfold Builtin.Range.rangeFitsLong
    simp only [Bool.and_eq_true, decide_eq_true_eq]
    omega
  simp only [Bool.and_eq_true]
  refine ⟨⟨⟨⟨fit _ (by omega) (by omega), fit _ (by omega) (by omega)⟩, by decide⟩, fit _ (by split <;> omega) (by split <;> omega)⟩, ?_⟩
  simp only [Bool.or_eq_true]
  right
  rw [if_pos (by decide)]
  exact fit _ (by omega) (by omega)

theorem iter_snd {v : AV} {v' : Value} {i : Nat} {σ' : St} {Q : Value → Shared → Prop} (R : Rep fa base ρ σ s.heap) (e : iterA v σ = some (i, σ')) (rv : RV fa ρ v v')
    (h : ∀ ρ' s' a, ρ.Le ρ' → Ok s s' → Rep fa base ρ' σ' s'.heap → ρ' i = some a → Q (.ref a) s') : wpAny (model prog w) A (pyIter v') Q E s := by
  have go : ∀ (ob : Obj) (o : AO), RO fa (addM ρ σ.n s.heap.objs.size) ob o → ob.isFreed = false → (i, σ') = (σ.n, σ.push o) → Q (.ref s.heap.objs.size) { s with heap := s.heap.push ob } := by
    intro ob o ro hf e
    cases e
    exact h _ _ _ (R.le_add _) (.heap _ _) (R.pushed ob ro hf) (addM_self ..)
  unfold iterA at e
  split at e
  · obtain ⟨t, rfl⟩ := rv
    rename_i x
    cases ha : x.cps.all (· < 128) with
    | true => exact wpAny_pyIter_ascii ha (go _ (.siter x 0) ⟨_, _, .inl rfl, rfl, rfl⟩ rfl (Option.some.inj e).symm)
    | false => exact wpAny_pyIter_wide ha (go _ (.siter x 0) ⟨_, _, .inr rfl, rfl, rfl⟩ rfl (Option.some.inj e).symm)
  · rename_i j
    obtain ⟨a1, ea, rfl⟩ := rv
    split at e
    · rename_i xs hx
      obtain ⟨vs, n, g, r⟩ := R.list hx ea
      exact wpAny_pyIter_list (isList g) (go _ (.liter j 0) ⟨_, R.le_add _ _ _ ea, rfl, rfl⟩ rfl (Option.some.inj e).symm)
    · rename_i a b hx
      split at e
      · rename_i h1 h2
        obtain ⟨ob, g, t, u, v, rfl⟩ := R.getAt hx ea
        refine wpAny_pyIter_range g (range_small h1 h2) ?_
        rw [rangeSize_one]
        exact go _ (.riter a (if a < b then b - a else 0)) rfl rfl (Option.some.inj e).symm
      · cases e
    · cases e
  · cases e

theorem next_snd {it : Nat} {a : Addr} {r : Option AV} {σ' : St} {Q : Option Value → Shared → Prop} (hr : Room A k) (R : Rep fa base ρ σ s.heap) (e : nextA it σ = some (r, σ')) (ea : ρ it = some a)
    (h : ∀ s', Ok s s' → Rep fa base ρ σ' s'.heap → match r with | none => Q none s' | some v => ∀ v', RV fa ρ v v' → Q (some v') s') : wpAny (model prog w) A (pyNext (.ref a)) Q E s := by
  unfold nextA at e
  split at e
  · rename_i l i hi
    obtain ⟨ob, g, al, el, hc, hd⟩ := R.getAt hi ea
    have hit : s.heap.IsListIter a al i := ⟨ob, g, hc, hd⟩
    split at e
    · rename_i xs hx
      obtain ⟨vs, n, g', rr⟩ := R.list hx el
      split at e
      · rename_i v hv
        cases e
        obtain ⟨y, hy, ry⟩ := rr.nth hv
        refine wpAny_pyNext_list_item hit (isList g') (by simpa using hy) fun h' hit' hs' => ?_
        obtain ⟨ob', g1, c1, d1⟩ := hit'
        exact h _ (.heap _ _) (R.set ⟨_, hi, trivial⟩ ea g1 ⟨al, el, c1, d1⟩ fun b o hb e => hs'.extBut b o hb e) y ry
      · rename_i hv
        cases e
        have hn := rr.nth_none hv
        exact wpAny_pyNext_list_end hr.1 hit (isList g') (by simpa using hn) fun h' he' => h _ (.heap _ _) (R.kill ⟨_, hi, trivial⟩ ea fun b o hb e => he' b o hb e)
    · cases e
  · rename_i x left hi
    obtain ⟨ob, g, rfl⟩ := R.getAt hi ea
    split at e
    · rename_i hl
      cases e
      refine wpAny_pyNext_range_item g (of_decide_eq_true hl) fun h' hit' hs' => ?_
      exact h _ (.toks _ _ _) (R.set ⟨_, hi, trivial⟩ ea hit' rfl fun b o hb e => hs'.extBut b o hb e) _ ⟨_, rfl⟩
    · rename_i hl
      cases e
      have hl' : left ≤ 0 := by have := of_decide_eq_false hl; omega
      exact wpAny_pyNext_range_end hr.1 g hl' fun h' he' => h _ (.heap _ _) (R.kill ⟨_, hi, trivial⟩ ea fun b o hb e => he' b o hb e)
  · rename_i x i hi
    obtain ⟨ob, g, TT, t, hT, hc, hd⟩ := R.getAt hi ea
    have nthArr : ∀ {l : List Nat} {j : Nat}, nth l j = l[j]? := by
      intro l
      induction l with
      | nil => intro j; rfl
      | cons y l ih => intro j; cases j with
        | zero => rfl
        | succ j => simpa [nth] using ih
    rcases hT with rfl | rfl
    · have hit : s.heap.IsStrIter a "str_ascii_iterator" x t i := ⟨ob, g, hc, hd⟩
      split at e
      · rename_i c hx
        cases e
        refine wpAny_pyNext_ascii_item hit (c := c) (by rw [nthArr] at hx; simpa using hx) fun h' hit' hs' => ?_
        obtain ⟨ob', g1, c1, d1⟩ := hit'
        exact h _ (.toks _ _ _) (R.set ⟨_, hi, trivial⟩ ea g1 ⟨_, _, .inl rfl, c1, d1⟩ fun b o hb e => hs'.extBut b o hb e) _ ⟨_, rfl⟩
      · rename_i hx
        cases e
        exact wpAny_pyNext_ascii_end hr.1 hit (by rw [nthArr] at hx; simpa using hx) fun h' he' => h _ (.heap _ _) (R.kill ⟨_, hi, trivial⟩ ea fun b o hb e => he' b o hb e)
    · have hit : s.heap.IsStrIter a "str_iterator" x t i := ⟨ob, g, hc, hd⟩
      split at e
      · rename_i c hx
        cases e
        refine wpAny_pyNext_wide_item hit (c := c) (by rw [nthArr] at hx; simpa using hx) fun h' hit' hs' => ?_
        obtain ⟨ob', g1, c1, d1⟩ := hit'
        exact h _ (.toks _ _ _) (R.set ⟨_, hi, trivial⟩ ea g1 ⟨_, _, .inr rfl, c1, d1⟩ fun b o hb e => hs'.extBut b o hb e) _ ⟨_, rfl⟩
      · rename_i hx
        cases e
        exact wpAny_pyNext_wide_end hr.1 hit (by rw [nthArr] at hx; simpa using hx) fun h' he' => h _ (.heap _ _) (R.kill ⟨_, hi, trivial⟩ ea fun b o hb e => he' b o hb e)
  · cases e

/-! targets -/
theorem storeAll_snd {Q : Unit → Shared → Prop} : ∀ {es : List Expr} {xs : List AV} {vs : List Value} {σ σ' : St} {s : Shared}, Rep fa base ρ σ s.heap → REnv ρ env ce → storeAll env es xs σ = some σ' → RVs fa ρ xs vs →
    (∀ s', Ok s s' → Rep fa base ρ σ' s'.heap → Q () s') → wpAny (model prog w) A (assignInOrder ((assignEach es ce).map (·.2)) vs) Q E s
  | [], [], _, σ, σ', s, R, _, e, .nil, h => by
    cases e
    exact wpAny_pure (h s (.refl _) R)
  | e :: es, x :: xs, _, σ, σ', s, R, RE, q, .cons (v := v) (vs := vs) rv rr, h => by
    unfold storeAll at q
    split at q
    · rename_i n p
      split at q
      · rename_i σ1 q1
        show wpAny _ _ (do holding vs (assign (.Name n p) ce v); assignInOrder ((assignEach es ce).map (·.2)) vs) _ _ s
        refine wpAny_bind (wpAny_holding (wpAny_assign_Name (store_snd R RE q1 rv fun s' o' R' => ?_)))
        exact storeAll_snd R' RE q rr fun s'' o'' R'' => h s'' (o'.trans o'') R''
      · cases q
    · cases q
  | [], _ :: _, _, _, _, _, _, _, e, _, _ => by cases e
  | _ :: _, [], _, _, _, _, _, _, e, _, _ => by cases e
theorem storeAll_len : ∀ {es : List Expr} {xs : List AV} {σ σ' : St}, storeAll env es xs σ = some σ' → (assignEach es ce).length = xs.length ∧ (assignEach es ce).findIdx? (·.1) = none
  | [], [], _, _, _ => ⟨rfl, rfl⟩
  | e :: es, x :: xs, σ, σ', q => by
    unfold storeAll at q
    split at q
    · rename_i n p
      split at q
      · obtain ⟨h1, h2⟩ := storeAll_len q
        refine ⟨?_, ?_⟩
        · show (_ :: assignEach es ce).length = _
          simp [h1]
        · show ((false, assign (.Name n p) ce) :: assignEach es ce).findIdx? (·.1) = none
          rw [List.findIdx?_cons]
          simp [h2]
      · cases q
    · cases q
  | [], _ :: _, _, _, e => by cases e
  | _ :: _, [], _, _, e => by cases e
theorem assign_snd {t : Expr} {v : AV} {v' : Value} {σ' : St} {Q : Unit → Shared → Prop} (hr : Room A k) (R : Rep fa base ρ σ s.heap) (RE : REnv ρ env ce) (e : assignA t env v σ = some σ') (rv : RV fa ρ v v')
    (h : ∀ s', Ok s s' → Rep fa base ρ σ' s'.heap → Q () s') : wpAny (model prog w) A (assign t ce v') Q E s := by
  unfold assignA at e
  split at e
  · exact wpAny_assign_Name (store_snd R RE e rv h)
  · split at e
    · obtain ⟨a1, ea, rfl⟩ := rv
      split at e
      · rename_i xs hx
        obtain ⟨ob, g, vs, n, rfl, rr⟩ := R.getAt hx ea
        obtain ⟨h1, h2⟩ := storeAll_len (ce := ce) e
        have hl := rr.length
        refine wpAny_assign_Tuple hr.1 (isTup g) (by rw [h1]; simpa using hl.symm) h2 fun h' he' => ?_
        refine storeAll_snd (s := { s with heap := h' }) (R.grow fun b o e => he' b o (Nat.ne_of_lt (Heap.lt_size e)) e) RE e rr fun s' o' R' => h s' (Ok.trans (.heap _ _) o') R'
      · cases e
    · cases e
  · cases e
end
end Mine
end

noncomputable section
set_option autoImplicit false
namespace Mine
open PySem
open PyProof.Rows (AllBare StrsAre)

theorem nth_eq {α : Type} : ∀ (l : List α) (j : Nat), nth l j = l[j]?
  | [], _ => rfl
  | _ :: _, 0 => rfl
  | _ :: l, j + 1 => by simpa [nth] using nth_eq l j
theorem toInts_eq : ∀ {xs : List AV} {ns : List Int}, toInts xs = some ns → xs = ns.map .int
  | [], _, e => by cases e; rfl
  | x :: r, ns, e => by
    cases x with
    | int i =>
      obtain ⟨m, hm, rfl⟩ := Option.map_eq_some_iff.mp (show (toInts r).map (i :: ·) = some ns from e)
      rw [toInts_eq hm]; rfl
    | _ => cases e
theorem toStrs_eq : ∀ {xs : List AV} {ns : List Str}, toStrs xs = some ns → xs = ns.map .str
  | [], _, e => by cases e; rfl
  | x :: r, ns, e => by
    cases x with
    | str i =>
      obtain ⟨m, hm, rfl⟩ := Option.map_eq_some_iff.mp (show (toStrs r).map (i :: ·) = some ns from e)
      rw [toStrs_eq hm]; rfl
    | _ => cases e
theorem joinS_len : ∀ ys : List Str, (joinS ys).length = (ys.map (·.length)).sum
  | [] => rfl
  | y :: r => by
    show (y.cps.toList ++ joinS r).length = _
    rw [List.length_append, joinS_len r, List.map_cons, List.sum_cons, str_len]
theorem glue_nil (x : Str) (hx : x.cps.toList = []) : ∀ (ys : List Str), Txt.join x ys = ⟨⟨joinS ys⟩⟩ := by
  have hx' : x.cps = #[] := by
    apply Array.ext'; rw [hx]
  have key : ∀ (r : List Str) (acc : Array Nat), r.foldl (fun acc p => acc ++ x.cps ++ p.cps) acc = acc ++ ⟨joinS r⟩ := by
    intro r
    induction r with
    | nil => intro acc; show acc = acc ++ #[]; simp
    | cons y r ih =>
      intro acc
      rw [List.foldl_cons, ih, hx']
      show acc ++ #[] ++ y.cps ++ ⟨joinS r⟩ = acc ++ ⟨y.cps.toList ++ joinS r⟩
      apply Array.ext'
      simp
  intro ys
  cases ys with
  | nil => rfl
  | cons y r =>
    show (⟨r.foldl (fun acc p => acc ++ x.cps ++ p.cps) y.cps⟩ : Str) = _
    rw [key]
    show (⟨y.cps ++ ⟨joinS r⟩⟩ : Str) = ⟨⟨y.cps.toList ++ joinS r⟩⟩
    congr 1
    apply Array.ext'
    simp
theorem insN_eq {α : Type} : ∀ (l : List α) (i : Nat) (v : α), i ≤ l.length → insN l i v = l.take i ++ v :: l.drop i
  | l, 0, v, _ => by cases l <;> rfl
  | [], i + 1, _, h => absurd h (by simp)
  | x :: r, i + 1, v, h => by
    show x :: insN r i v = _
    rw [insN_eq r i v (by simpa using h)]; rfl

section
variable {prog : Program} {w : World} {fa : Nat → Addr} {T : Tab} {base : Addr → Option Obj} {A : Around} {E : Value → Shared → Prop} {s : Shared} {ρ : Map} {σ : St} {env : AEnv} {ce : Env} {k : Nat} {O : Ops}

theorem RVs.insert {a : List AV} {v : List Value} {x : AV} {y : Value} (r : RVs fa ρ a v) (h : RV fa ρ x y) (i : Nat) : RVs fa ρ (a.take i ++ x :: a.drop i) (v.take i ++ y :: v.drop i) := by
  induction r generalizing i with
  | nil => simp; exact .cons h .nil
  | cons h' r' ih =>
    cases i with
    | zero => exact .cons h (.cons h' r')
    | succ i => exact .cons h' (ih i)
theorem RVs.ints {xs : List Int} {vs : List Value} (r : RVs fa ρ (xs.map .int) vs) : PyProof.Rows.IntsAre vs xs := by
  induction xs generalizing vs with
  | nil => cases r; exact .nil
  | cons x l ih =>
    cases r with
    | cons h r' => obtain ⟨t, rfl⟩ := h; exact .cons _ _ (ih r')
theorem RVs.strs {xs : List Str} {vs : List Value} (r : RVs fa ρ (xs.map .str) vs) : StrsAre vs xs := by
  induction xs generalizing vs with
  | nil => cases r; exact .nil
  | cons x l ih =>
    cases r with
    | cons h r' => obtain ⟨t, rfl⟩ := h; exact .cons _ _ (ih r')
theorem RVs.of_strs {xs : List Str} {vs : List Value} (r : StrsAre vs xs) : RVs fa ρ (xs.map .str) vs := by
  induction r with
  | nil => exact .nil
  | cons y t _ ih => exact .cons ⟨_, rfl⟩ ih
theorem RVs.of_ints {xs : List Int} {vs : List Value} (r : PyProof.Rows.IntsAre vs xs) : RVs fa ρ (xs.map .int) vs := by
  induction r with
  | nil => exact .nil
  | cons y t _ ih => exact .cons ⟨_, rfl⟩ ih

/-! arguments -/
theorem star_plain {e : Expr} (h : notStar e = true) (rest : List Expr) : starEach (e :: rest) ce = (false, eval e ce) :: starEach rest ce := by
  cases e <;> first | rfl | cases h
theorem evL_stars : ∀ {es : List Expr} {σ : St} {r : List AV × St} {f : Expr → St → Option (AV × St)}, evL f es σ = some r → ∀ pos : Pos, (backTo pos (starEach es ce)).any (·.1) = false
  | [], _, _, _, _, _ => rfl
  | e :: es, σ, r, f, h, pos => by
    unfold evL at h
    split at h
    · rename_i h1 h2
      split at h
      · rename_i h3
        rw [star_plain h1]
        show (false || (backTo pos (starEach es ce)).any (·.1)) = false
        rw [evL_stars h3]; rfl
      · cases h
    · cases h
theorem evL_snd (IH : Snd prog w fa base O) {pos : Pos} {Q : List Value → Shared → Prop} (hr : Room A k) : ∀ {es : List Expr} {vs : List AV} {σ σ' : St} {s : Shared} {ρ : Map}, evL (fun e σ => O.ev k e env σ) es σ = some (vs, σ') →
    Rep fa base ρ σ s.heap → REnv ρ env ce → (∀ ρ' s' vs', ρ.Le ρ' → Ok s s' → Rep fa base ρ' σ' s'.heap → RVs fa ρ' vs vs' → Q vs' s') → wpAny (model prog w) A (spliced (backTo pos (starEach es ce))) Q E s
  | [], _, σ, σ', s, ρ, e, R, RE, h => by
    cases e
    exact wpAny_items_nil (h ρ s [] (.refl _) (.refl _) R .nil)
  | x :: es, vs, σ, σ', s, ρ, e, R, RE, h => by
    unfold evL at e
    split at e
    · rename_i v σ1 h1 h2
      split at e
      · rename_i vs' σ2 h3
        cases e
        refine wpAny_items_cons (IH.ev h2 hr R RE fun ρ1 v1 s1 l1 o1 R1 r1 => ?_) (star_plain h1 es)
        refine evL_snd IH hr (Q := fun us s2 => Q (v1 :: us) s2) h3 R1 (RE.mono l1) fun ρ2 s2 us l2 o2 R2 r2 => ?_
        exact h ρ2 s2 _ (l1.trans l2) (o1.trans o2) R2 (.cons (r1.mono l2) r2)
      · cases e
    · cases e
theorem evalArgs_of {f : Value} {pos : Pos} {es : List Expr} {Q : Args → Shared → Prop} (hp : (backTo pos (starEach es ce)).any (·.1) = false) (h : wpAny (model prog w) A (spliced (backTo pos (starEach es ce))) (fun vs s' => Q ⟨vs, []⟩ s') E s) :
    wpAny (model prog w) A (evalArgs f true (backTo pos (starEach es ce)) []) Q E s := by
  generalize backTo pos (starEach es ce) = ts at hp h
  cases ts with
  | nil =>
    unfold evalArgs
    show wpAny _ A (spliced [] >>= _) Q E s
    refine wpAny_bind (wpAny_mono h (fun vs s' h' => ?_) fun _ _ x => x)
    refine wpAny_bind (wpAny_pure ?_)
    refine wpAny_holding ?_
    exact wpAny_bind (wpAny_pure (wpAny_bind (wpAny_pure (wpAny_pure h'))))
  | cons t ts =>
    obtain ⟨b, t⟩ := t
    simp only [List.any_cons, Bool.or_eq_false_iff] at hp
    obtain ⟨rfl, _⟩ := hp
    exact Calls.evalArgs_plain h

/-! methods -/
theorem appended (R : Rep fa base ρ σ s.heap) {l : Nat} {xs : List AV} {a : Addr} {v : AV} {v' : Value} {Q : Value → Shared → Prop} (e : σ.at l = some (.list xs)) (ea : ρ l = some a) (hs : small xs.length = true) (rv : RV fa ρ v v')
    (h : ∀ s', Ok s s' → Rep fa base ρ (σ.set l (.list (xs ++ [v]))) s'.heap → Q .none s') : wpAny (model prog w) A (call (.builtin "list.append") [.ref a, v']) Q E s := by
  obtain ⟨vs, n, g, r⟩ := R.list e ea
  have hl := r.length
  have hsz : vs.size ≤ sizeLine := line_ge (by have := small_le hs; simp at hl; omega)
  refine call_meets F.slot_list_append ⟨_, g, rfl⟩ F.entry_list_append (F.args_list_append_2 _ _) (list_append a vs n v' hsz) ⟨g, ?_⟩
  refine h _ (.toks _ _ _) (R.set ⟨_, e, trivial⟩ ea (Heap.get?_update_self _ g rfl) ⟨_, _, rfl, ?_⟩ fun b o hb e => (Heap.SameBut.update s.heap a (Obj.mapSeq fun x => x.push v')).extBut b o hb e)
  rw [Array.toList_push]
  exact r.append (.cons rv .nil)
def Meth.ty : Meth → String | .join => "str" | _ => "list"
def Meth.id : Meth → String | .join => "str.join" | .append => "list.append" | .insert => "list.insert" | .index => "list.index"
theorem methK_snd {name : Str} {o : AV} {o' : Value} {m : Meth} (R : Rep fa base ρ σ s.heap) (e : methK name o σ = some m) (ro : RV fa ρ o o') :
    PlainAttrs m.ty ∧ Slot m.ty name m.id ∧ typeOf (.builtin m.id) = pure (.type "method_descriptor") ∧ s.TypeIs o' m.ty ∧ ∀ a, o' = .ref a → ∃ ob, s.heap.get? a = some ob ∧ ob.dict = none := by
  unfold methK at e
  split at e
  · obtain ⟨t, rfl⟩ := ro
    split at e
    · rename_i h1
      obtain rfl := sB_iff.mp h1
      cases e
      exact ⟨F.plainAttrs_str, F.slot_str_join, F.type_str_join, typeIs_str _ _ _, fun a e => nomatch e⟩
    · cases e
  · obtain ⟨a, ea, rfl⟩ := ro
    split at e
    · rename_i xs hx
      obtain ⟨vs, n, g, r⟩ := R.list hx ea
      have dd : ∀ b, Value.ref a = .ref b → ∃ ob, s.heap.get? b = some ob ∧ ob.dict = none := fun b e => by cases e; exact ⟨_, g, rfl⟩
      split at e
      · rename_i hn
        obtain rfl := sB_iff.mp hn
        cases e
        exact ⟨F.plainAttrs_list, F.slot_list_append, F.type_list_append, ⟨_, g, rfl⟩, dd⟩
      · split at e
        · rename_i hn
          obtain rfl := sB_iff.mp hn
          cases e
          exact ⟨F.plainAttrs_list, F.slot_list_insert, F.type_list_insert, ⟨_, g, rfl⟩, dd⟩
        · split at e
          · rename_i hn
            obtain rfl := sB_iff.mp hn
            cases e
            exact ⟨F.plainAttrs_list, F.slot_list_index, F.type_list_index, ⟨_, g, rfl⟩, dd⟩
          · cases e
    · cases e
  · cases e
theorem meth_snd {m : Meth} {o v : AV} {args : List AV} {o' : Value} {args' : List Value} {σ' : St} {Q : Value → Shared → Prop} (R : Rep fa base ρ σ s.heap) (e : methA m o args σ = some (v, σ')) (ro : RV fa ρ o o') (rs : RVs fa ρ args args')
    (h : PV fa base ρ σ' v s Q) : wpAny (model prog w) A (call (.builtin m.id) (o' :: args')) Q E s := by
  unfold methA at e
  split at e
  · -- join
    split at e
    · rename_i x i
      obtain ⟨t, rfl⟩ := ro
      split at e
      · rename_i xs h2 hx
        split at e
        · rename_i ys hy
          split at e
          · rename_i h3 h4
            cases e
            cases rs with
            | cons ra rr =>
              cases rr
              obtain ⟨a, ea, rfl⟩ := ra
              obtain ⟨vs, n, g, r⟩ := R.list hx ea
              rw [toStrs_eq hy] at r
              refine PyProof.Rows.join_list (isList g) r.strs ?_ fun t' tk => ?_
              · have b1 := small_le h3
                have b2 := small_le h4
                rw [joinS_len] at b2
                rw [str_len, h2]
                simp only [List.length_nil, Nat.mul_zero, Nat.add_zero]
                omega
              · rw [glue_nil _ h2]
                exact h.tok R ⟨_, rfl⟩
          · cases e
        · cases e
      · cases e
    · cases e
  · -- append
    split at e
    · rename_i l v0
      obtain ⟨a, ea, rfl⟩ := ro
      split at e
      · rename_i xs hx
        split at e
        · rename_i hs
          cases e
          cases rs with
          | cons rv rr =>
            cases rr
            exact appended R hx ea hs rv fun s' o' R' => h _ _ _ (.refl _) o' R' rfl
        · cases e
      · cases e
    · cases e
  · -- insert
    split at e
    · rename_i l i v0
      obtain ⟨a, ea, rfl⟩ := ro
      split at e
      · rename_i xs hx
        split at e
        · rename_i hs hi
          obtain ⟨vs, n, g, r⟩ := R.list hx ea
          have hl := r.length
          have hsz : vs.size ≤ sizeLine := line_ge (by have := small_le hs; simp at hl; omega)
          cases e
          have hi' : i ≤ xs.length := Nat.le_of_ble_eq_true hi
          cases rs with
          | cons r1 rr =>
            cases rr with
            | @cons _ v' _ _ rv rr =>
              cases rr
              obtain ⟨t, rfl⟩ := r1
              have hfit : ¬ (!Builtin.List.listFitsIndex (Int.ofNat i)) = true := by
                have := small_le hs
                unfold Builtin.List.listFitsIndex
                simp
                omega
              obtain ⟨z, hz⟩ : ∃ z : Int, z = Int.ofNat i := ⟨_, rfl⟩
              rw [← hz] at hfit ⊢
              have mm := AutoSeq1.list_insert_list_int_val_1 a vs n z t v' hfit hsz
              have aa := F.args_list_insert_3 (.ref a) (.int z t) v'
              have tt : s.TypeIs (.ref a) "list" := ⟨_, g, rfl⟩
              refine call_meets F.slot_list_insert tt F.entry_list_insert aa mm ⟨g, ?_⟩
              refine h _ _ _ (.refl _) (.toks _ _ _) (R.set ⟨_, hx, trivial⟩ ea (Heap.get?_update_self _ g rfl) ⟨_, _, rfl, ?_⟩ fun b o hb e => (Heap.SameBut.update s.heap a _).extBut b o hb e) rfl
              rw [insN_eq _ _ _ hi']
              have key := r.insert rv i
              have hi2 : i ≤ vs.size := by simp at hl; omega
              have e1 : ((vs.extract 0 i).push v' ++ vs.extract i).toList = vs.toList.take i ++ v' :: vs.toList.drop i := by
                simp
                exact List.take_of_length_le (by simp)
              have hz0 : 0 ≤ z ∧ z.toNat = i := by rw [hz]; exact ⟨by simp, rfl⟩
              have e2 : (if z < 0 then (z + (vs.size : Int)).toNat else min z.toNat vs.size) = i := by
                rw [if_neg (by omega), hz0.2]
                omega
              simp only [e2, e1]
              exact key
        · cases e
      · cases e
    · cases e
  · -- index
    split at e
    · rename_i l i
      obtain ⟨a, ea, rfl⟩ := ro
      split at e
      · rename_i xs hx
        split at e
        · rename_i ns hs hns
          split at e
          · rename_i hc
            obtain ⟨vs, n, g, r⟩ := R.list hx ea
            have hl := r.length
            cases e
            cases rs with
            | cons r1 rr =>
              cases rr
              obtain ⟨t, rfl⟩ := r1
              have hm : i ∈ ns := by simpa using hc
              rw [toInts_eq hns] at r
              have hI := r.ints
              have hlen := hI.length
              simp at hlen
              have at_ : ∀ m (hm : m < vs.size), ∃ t', vs[m] = .int (ns[m]'(by omega)) t' := by
                intro m hm
                obtain ⟨t', ht⟩ := hI.get m (ns[m]'(by omega)) (by simp)
                refine ⟨t', ?_⟩
                have : vs.toList[m]? = some vs[m] := by simp [hm]
                rw [this] at ht
                exact Option.some.inj ht
              have hj : ns.idxOf i < ns.length := List.idxOf_lt_length_of_mem hm
              have hsm := small_le hs
              simp at hl
              refine call_meets F.slot_list_index ⟨_, g, rfl⟩ F.entry_list_index (F.args_list_index_2 _ _)
                (MeetsSeq.list_index a vs n (.int i t) (eqV (.int i)) (fun y hy => ?_) (ns.idxOf i) (by omega) (by omega) ?_ ?_) ⟨g, ?_⟩
              · obtain ⟨m, hm', rfl⟩ := Array.mem_iff_getElem.mp hy
                obtain ⟨t', ht⟩ := at_ m hm'
                rw [ht]
                exact MeetsSeq.EqGives.int _ _ _ _
              · obtain ⟨t', ht⟩ := at_ (ns.idxOf i) (by omega)
                rw [ht]
                show (_ == _) = true
                simp
              · intro m hm' hlt
                obtain ⟨t', ht⟩ := at_ m hm'
                rw [ht]
                show (_ == _) = false
                have := List.not_of_lt_findIdx (p := (· == i)) (xs := ns) (i := m) hlt
                simpa using this
              · exact h _ _ _ (.refl _) (.toks _ _ _) R ⟨_, rfl⟩
          · cases e
        · cases e
      · cases e
    · cases e
theorem evL_len : ∀ {es : List Expr} {σ : St} {r : List AV × St} {f : Expr → St → Option (AV × St)}, evL f es σ = some r → r.1.length = es.length
  | [], _, _, _, e => by cases e; rfl
  | x :: es, σ, r, f, h => by
    unfold evL at h
    split at h
    · split at h
      · rename_i h3
        cases h
        show _ + 1 = _ + 1
        rw [evL_len h3]
      · cases h
    · cases h
/-- the road of a method's call -/
theorem method_call {o : Expr} {name : Str} {apos pos : Pos} {args : List Expr} {m : Meth} {Q : Value → Shared → Prop} (hb : attributeBase o name ce (eval o ce) = eval o ce) (hline : apos.endLine = pos.line)
    (hp : (backTo pos (starEach args ce)).any (·.1) = false) (hlen : args.length < 29) (pa : PlainAttrs m.ty) (sl : Slot m.ty name m.id) (ty : typeOf (.builtin m.id) = pure (.type "method_descriptor"))
    (h : wpAny (model prog w) A (eval o ce) (fun ov s₁ => s₁.TypeIs ov m.ty ∧ (∀ a, ov = .ref a → ∃ ob, s₁.heap.get? a = some ob ∧ ob.dict = none) ∧
      wpAny (model prog w) A (spliced (backTo pos (starEach args ce))) (fun vs s' => wpAny (model prog w) A (call (.builtin m.id) (ov :: vs)) Q E s') E s₁) E s) :
    wpAny (model prog w) A (eval (.Call (.Attribute o name apos) args [] pos) ce) Q E s := by
  refine wpAny_Call_method hb ?_ (by simp [hline]) pa sl ty (wpAny_mono h (fun ov s₁ h₁ => ?_) fun _ _ x => x)
  · rw [Bool.and_eq_true, Bool.and_eq_true]
    refine ⟨⟨?_, rfl⟩, ?_⟩
    · rw [List.all_eq_true]
      intro x hx
      have := List.any_eq_false.mp hp x hx
      simpa using this
    · simp; omega
  · obtain ⟨h1, h2, h3⟩ := h₁
    refine ⟨h1, h2, Calls.callWith_builtin hp (evalArgs_of hp (wpAny_mono h3 (fun vs s' h' => h') fun _ _ x => x))⟩
end
end Mine
end

noncomputable section
set_option autoImplicit false
namespace Mine
open PySem
open PyProof.Rows (AllBare StrsAre)

section
variable {prog : Program} {w : World} {fa : Nat → Addr} {T : Tab} {base : Addr → Option Obj} {A : Around} {E : Value → Shared → Prop} {s : Shared} {ρ : Map} {σ : St} {env : AEnv} {ce : Env} {k : Nat} {O : Ops}

/-- the fixed facts hold wherever the base stands -/
def StatB (prog : Program) (w : World) (fa : Nat → Addr) (T : Tab) (base : Addr → Option Obj) : Prop := ∀ h : Heap, (∀ b o, base b = some o → h.get? b = some o) → Stat prog w fa T h

theorem set_pure {iter : Expr} (h : notSet iter = true) (x : Value) : foldedSetIterable iter ce x = pure x := by
  cases iter <;> first | rfl | cases h
theorem set_marks {op : CmpOp} {r : Expr} (h : notSet r = true) : behindInMarks op r = false := by
  cases r <;> first | rfl | cases h
theorem eval_Call_plain {f : Expr} {args : List Expr} {pos : Pos} (h : ∀ o n p, f ≠ .Attribute o n p) : eval (.Call f args [] pos) ce = (do callWith pos (← eval f ce) [] (backTo pos (starEach args ce)) []) := by
  cases f <;> first | rfl | exact absurd rfl (h _ _ _)
theorem base_call {o : Expr} {name : Str} (h : notCall o = true) : attributeBase o name ce (eval o ce) = eval o ce := by
  cases o <;> first | rfl | cases h

theorem cmpE_snd (IH : Snd prog w fa base O) {l : Expr} {ops : List CmpOp} {cs : List Expr} {b : Bool} {σ' : St} (hr : Room A k) (R : Rep fa base ρ σ s.heap) (RE : REnv ρ env ce) (e : cmpE O k l ops cs env σ = some (b, σ')) :
    ∃ op r, ops = [op] ∧ cs = [r] ∧ notSet r = true ∧ ∀ Q : Value → Shared → Prop, PV fa base ρ σ' (.bool b) s Q →
      wpAny (model prog w) A (eval l ce) (fun a s₁ => wpAny (model prog w) A (eval r ce) (fun b s₂ => wpAny (model prog w) A (compareOp op a b) Q E s₂) E s₁) E s := by
  unfold cmpE at e
  split at e
  · rename_i op r
    split at e
    · rename_i a σ1 h1 h2
      split at e
      · rename_i b' σ2 h3
        split at e
        · rename_i r' h4
          cases e
          refine ⟨op, r, rfl, rfl, h1, fun Q h => IH.ev h2 hr R RE fun ρ1 a1 s1 l1 o1 R1 ra => IH.ev h3 hr R1 (RE.mono l1) fun ρ2 b2 s2 l2 o2 R2 rb => ?_⟩
          exact cmp_snd hr R2 h4 (ra.mono l2) rb (h ρ2 _ s2 (l1.trans l2) (o1.trans o2) R2 rfl)
        · cases e
      · cases e
    · cases e
  · cases e

theorem methK_static {name : Str} {o : AV} {σ : St} {m : Meth} (e : methK name o σ = some m) : PlainAttrs m.ty ∧ Slot m.ty name m.id ∧ typeOf (.builtin m.id) = pure (.type "method_descriptor") := by
  unfold methK at e
  split at e
  · split at e
    · rename_i h1
      obtain rfl := sB_iff.mp h1
      cases e
      exact ⟨F.plainAttrs_str, F.slot_str_join, F.type_str_join⟩
    · cases e
  · split at e
    · split at e
      · rename_i hn
        obtain rfl := sB_iff.mp hn
        cases e
        exact ⟨F.plainAttrs_list, F.slot_list_append, F.type_list_append⟩
      · split at e
        · rename_i hn
          obtain rfl := sB_iff.mp hn
          cases e
          exact ⟨F.plainAttrs_list, F.slot_list_insert, F.type_list_insert⟩
        · split at e
          · rename_i hn
            obtain rfl := sB_iff.mp hn
            cases e
            exact ⟨F.plainAttrs_list, F.slot_list_index, F.type_list_index⟩
          · cases e
    · cases e
  · cases e
theorem keeper_snd {h : Heap} {f : Fn} {v : Value} (S : Stat prog w fa T h) (e : okFn T f = true) (r : RV fa ρ (.fn f) v) : ∃ k, (k = Keeper.frame ∨ k = Keeper.machine ∨ k = Keeper.boundFrame) ∧ W.Looks (model prog w) h (keeperOf v) k := by
  cases r
  cases f with
  | user i =>
    have e : (T.info i).isSome = true := e
    cases q : T.info i with
    | none => rw [q] at e; cases e
    | some fi =>
      obtain ⟨o, fd, g, hd, _⟩ := (S.fn i fi q).ok
      refine ⟨.frame, .inl rfl, fun A Q E s hk hq => ?_⟩
      show wpAny _ A (load (fa i) >>= _) _ _ s
      refine wpAny_bind (wpAny_load (hk _ _ g) ?_)
      rw [hd]
      exact wpAny_pure hq
  | _ => exact ⟨.machine, .inr (.inl rfl), .of_pure rfl⟩

theorem ev_snd (SB : StatB prog w fa T base) (IH : Snd prog w fa base O)
    (HC : ∀ {k e env σ v σ'}, compA O k e env σ = some (v, σ') → ∀ {A E s ρ ce Q}, Room A k → Rep fa base ρ σ s.heap → REnv ρ env ce → PV fa base ρ σ' v s Q → wpAny (model prog w) A (eval e ce) Q E s)
    {x : Expr} {v : AV} {σ' : St} {Q : Value → Shared → Prop} (e : stepEv T O k x env σ = some (v, σ')) (hr : Room A k) (R : Rep fa base ρ σ s.heap) (RE : REnv ρ env ce) (h : PV fa base ρ σ' v s Q) :
    wpAny (model prog w) A (eval x ce) Q E s := by
  unfold stepEv at e
  split at e
  · -- Constant
    split at e
    · cases e; exact wpAny_Constant_int (h.tok R ⟨_, rfl⟩)
    · cases e; exact wpAny_Constant_str (h.tok R ⟨_, rfl⟩)
    · cases e; exact wpAny_Constant_bool (h.here R rfl)
    · cases e; exact wpAny_Constant_none (h.here R rfl)
    · cases e
  · -- Name
    split at e
    · rename_i hv
      cases e
      exact name_snd (SB _ R.keep) R RE hv h
    · cases e
  · -- BinOp
    split at e
    · rename_i a σ1 h1
      split at e
      · rename_i b σ2 h2
        refine wpAny_BinOp (IH.ev h1 hr R RE fun ρ1 a1 s1 l1 o1 R1 ra => IH.ev h2 hr R1 (RE.mono l1) fun ρ2 b2 s2 l2 o2 R2 rb => ?_)
        exact bin_snd R2 e (ra.mono l2) rb (h.later (l1.trans l2) (o1.trans o2))
      · cases e
    · cases e
  · -- List
    split at e
    · rename_i vs σ1 h1 h2
      cases e
      refine wpAny_List (evL_snd IH hr h2 R RE fun ρ1 s1 vs1 l1 o1 R1 rs => ?_)
      have hl := rs.length
      have hlen : vs.length = _ := evL_len h2
      refine ⟨line_ge (by have := small_le h1; omega), ?_⟩
      exact (h.later l1 o1).alloc (ob := listObj vs1.toArray 0) (tk := s1.toks) R1 ⟨_, _, rfl, rs.mono (R1.le_add _)⟩
    · cases e
  · -- Tuple
    split at e
    · rename_i vs σ1 h1 h2
      cases e
      refine wpAny_Tuple (evL_snd IH hr h2 R RE fun ρ1 s1 vs1 l1 o1 R1 rs => ?_)
      have hl := rs.length
      have hlen : vs.length = _ := evL_len h2
      refine ⟨line_ge (by have := small_le h1; omega), ?_⟩
      exact (h.later l1 o1).alloc (ob := tupObj vs1.toArray 0) (tk := s1.toks) R1 ⟨_, _, rfl, rs.mono (R1.le_add _)⟩
    · cases e
  · exact HC e hr R RE h
  · -- Compare
    split at e
    · rename_i b σ1 h1
      cases e
      obtain ⟨op, r, rfl, rfl, hs, key⟩ := cmpE_snd (E := E) IH hr R RE h1
      exact wpAny_Compare1 (key _ h) (set_marks hs)
    · cases e
  · -- BoolOp
    split at e
    · split at e
      · rename_i b σ1 h1
        refine wpAny_And2 (IH.ev h1 hr R RE fun ρ1 a1 s1 l1 o1 R1 ra => ?_)
        cases ra
        refine wpAny_truthy_bool ?_
        split at e
        · exact IH.ev e hr R1 (RE.mono l1) (h.later l1 o1)
        · cases e
          exact h ρ1 _ s1 l1 o1 R1 rfl
      · cases e
    · cases e
  · -- Subscript
    rename_i o i pos
    split at e
    · cases e
    · rename_i hns
      split at e
      · rename_i a σ1 h1
        split at e
        · rename_i j σ2 h2
          split at e
          · rename_i xs hx
            split at e
            · rename_i v0 h3 h4
              cases e
              refine PyProof.Rows.Subscript_ (IH.ev h1 hr R RE fun ρ1 a1 s1 l1 o1 R1 ra => IH.ev h2 hr R1 (RE.mono l1) fun ρ2 b2 s2 l2 o2 R2 rb => ?_)
              obtain ⟨a', ea, rfl⟩ := ra.mono l2
              obtain ⟨t, rfl⟩ := rb
              obtain ⟨vs, n, g, rr⟩ := R2.list hx ea
              obtain ⟨y, hy, ry⟩ := rr.nth h4
              have hj := small_le h3
              refine PyProof.Rows.tail_any (ops := [.ref a', .int (Int.ofNat j) t]) (isList g).typeIs slot_list_getitem.lookup
                (wpAny_getItem_list (isList g) (by simp) (by show ((j : Nat) : Int) < 2 ^ 63; omega) (by simpa using hy) (h ρ2 y s2 (l1.trans l2) (o1.trans o2) R2 ry)) ?_
              cases i <;> first | rfl | exact absurd rfl (hns _ _ _ _)
            · cases e
          · cases e
        · cases e
      · cases e
  · -- Call
    split at e
    · split at e
      · rename_i hlen
        have hlen' := Nat.le_of_ble_eq_true hlen
        split at e
        · -- a method
          rename_i o name apos
          split at e
          · rename_i ov σ1 h1 h2 h3
            split at e
            · rename_i m vs σ2 hk h4
              have hp := evL_stars (ce := ce) h4
              obtain ⟨pa, sl, ty⟩ := methK_static hk
              refine method_call (base_call h1) (Nat.eq_of_beq_eq_true h2) (hp _) (by omega) pa sl ty (IH.ev h3 hr R RE fun ρ1 a1 s1 l1 o1 R1 ra => ?_)
              obtain ⟨_, _, _, tt, dd⟩ := methK_snd R1 hk ra
              refine ⟨tt, dd, evL_snd IH hr h4 R1 (RE.mono l1) fun ρ2 s2 vs2 l2 o2 R2 rs => ?_⟩
              exact meth_snd R2 e (ra.mono l2) rs (h.later (l1.trans l2) (o1.trans o2))
            · cases e
          · cases e
        · rename_i hna
          split at e
          · rename_i f σ1 h1
            split at e
            · rename_i vs σ2 h2 h3
              have hp := evL_stars (ce := ce) h3
              rw [eval_Call_plain hna]
              refine wpAny_bind (IH.ev h1 hr R RE fun ρ1 a1 s1 l1 o1 R1 ra => ?_)
              refine W.callWith_of (P := fun h => ∃ k, (k = Keeper.frame ∨ k = Keeper.machine ∨ k = Keeper.boundFrame) ∧ W.Looks (model prog w) h (keeperOf a1) k) (by rw [hp]; rfl) (fun _ x => x)
                (evalArgs_of (hp _) (evL_snd IH hr h3 R1 (RE.mono l1) fun ρ2 s2 vs2 l2 o2 R2 rs => ⟨?_, ?_⟩))
              · exact keeper_snd (SB _ R2.keep) h2 ra
              · exact IH.call e hr R2 (RV.mono (a := .fn f) l2 ra) rs (h.later (l1.trans l2) (o1.trans o2))
            · cases e
          · cases e
      · cases e
    · cases e
  · cases e
end
end Mine
end

noncomputable section
set_option autoImplicit false
namespace Mine
open PySem
open PyProof.Rows (AllBare StrsAre)

section
variable {prog : Program} {w : World} {fa : Nat → Addr} {T : Tab} {base : Addr → Option Obj} {A : Around} {E : Value → Shared → Prop} {s : Shared} {ρ : Map} {σ : St} {env : AEnv} {ce : Env} {k : Nat} {O : Ops}

theorem allT_snd (IH : Snd prog w fa base O) (hr : Room A k) {op : BoolOp} {Q : Bool → Shared → Prop} : ∀ {es : List Expr} {b : Bool} {σ σ' : St} {s : Shared} {ρ : Map}, allT op (fun e σ => O.tr k e env σ) es σ = some (b, σ') →
    Rep fa base ρ σ s.heap → REnv ρ env ce → PU fa base ρ σ' s (Q b) → wpAny (model prog w) A (allTrue op es ce) Q E s
  | [], b, σ, σ', s, ρ, e, R, RE, h => by
    cases op with
    | And => cases e; exact wpAny_allTrue_And_nil (h ρ s (.refl _) (.refl _) R)
    | Or => cases e; exact wpAny_allTrue_Or_nil (h ρ s (.refl _) (.refl _) R)
  | x :: es, b, σ, σ', s, ρ, e, R, RE, h => by
    unfold allT at e
    split at e
    · rename_i b1 σ1 h1
      cases op with
      | And =>
        refine wpAny_allTrue_And_cons (IH.tr h1 hr R RE fun ρ1 s1 l1 o1 R1 => ?_)
        cases b1 with
        | false => cases e; exact h ρ1 s1 l1 o1 R1
        | true => exact allT_snd IH hr (op := .And) e R1 (RE.mono l1) (h.later l1 o1)
      | Or =>
        refine wpAny_allTrue_Or_cons (IH.tr h1 hr R RE fun ρ1 s1 l1 o1 R1 => ?_)
        cases b1 with
        | true => cases e; exact h ρ1 s1 l1 o1 R1
        | false => exact allT_snd IH hr (op := .Or) e R1 (RE.mono l1) (h.later l1 o1)
    · cases e

theorem tr_snd (IH : Snd prog w fa base O) {x : Expr} {b : Bool} {σ' : St} {Q : Bool → Shared → Prop} (e : stepTr O k x env σ = some (b, σ')) (hr : Room A k) (R : Rep fa base ρ σ s.heap) (RE : REnv ρ env ce) (h : PU fa base ρ σ' s (Q b)) :
    wpAny (model prog w) A (isTrue x ce (eval x ce)) Q E s := by
  unfold stepTr at e
  split at e
  · split at e
    · split at e
      · rename_i b1 σ1 h1
        cases e
        exact wpAny_isTrue_Not (IH.tr h1 hr R RE fun ρ1 s1 l1 o1 R1 => h ρ1 s1 l1 o1 R1)
      · cases e
    · cases e
  · exact wpAny_isTrue_BoolOp (allT_snd IH hr e R RE h)
  · cases e
  · obtain ⟨op, r, rfl, rfl, hs, key⟩ := cmpE_snd (E := E) IH hr R RE e
    refine wpAny_isTrue_Compare1 (key _ fun ρ' v' s' l' o' R' rv => ?_) (set_marks hs)
    cases rv
    exact wpAny_truthy_bool (h ρ' s' l' o' R')
  · split at e
    · rename_i b1 σ1 h1
      cases e
      refine wpAny_isTrue_value (IH.ev h1 hr R RE fun ρ' v' s' l' o' R' rv => ?_) rfl
      cases rv
      exact wpAny_truthy_bool (h ρ' s' l' o' R')
    · cases e
  · split at e
    · rename_i b1 σ1 h1
      cases e
      refine wpAny_isTrue_value (IH.ev h1 hr R RE fun ρ' v' s' l' o' R' rv => ?_) rfl
      cases rv
      exact wpAny_truthy_bool (h ρ' s' l' o' R')
    · cases e
  · cases e

theorem FlowOk.mono {ρ ρ' : Map} (l : ρ.Le ρ') {f : AFlow} {f' : Flow} (h : FlowOk fa ρ f f') : FlowOk fa ρ' f f' := by
  cases f with
  | ret v => obtain ⟨v', e, r⟩ := h; exact ⟨v', e, r.mono l⟩
  | _ => exact h

theorem no_interactive (RE : REnv ρ env ce) : interactive ce = false := by
  unfold interactive
  rw [RE.scope, RE.kind]; rfl
theorem notComp_swaps {value : Expr} {t : Option Expr} {n : Nat} (h : ∀ a b c d, value ≠ .ListComp a b c d) (h2 : ∀ a b c d, value ≠ .SetComp a b c d) (h3 : ∀ a b c d e, value ≠ .DictComp a b c d e) : swapsWith value t n ce = pure false := by
  cases value <;> first | rfl | exact absurd rfl (h _ _ _ _) | exact absurd rfl (h2 _ _ _ _) | exact absurd rfl (h3 _ _ _ _ _)
end
end Mine
end

noncomputable section
set_option autoImplicit false
namespace Mine
open PySem
open PyProof.Rows (AllBare StrsAre)

section
variable {prog : Program} {w : World} {fa : Nat → Addr} {T : Tab} {base : Addr → Option Obj} {A : Around} {E : Value → Shared → Prop} {s : Shared} {ρ : Map} {σ : St} {env : AEnv} {ce : Env} {k : Nat} {O : Ops}

/-! the making of an environment -/
theorem cells_snd (f : Str × NameKind → List (Str × Addr) → Sem (ForInStep (List (Str × Addr))))
    (hf : ∀ name kind cells, f (name, kind) cells = if kind == .cell then (do let a ← PySem.alloc { cls := .type "cell", data := .cell none }; pure (.yield ((name, a) :: cells))) else pure (.yield cells)) :
    ∀ (names : List (Str × NameKind)) {cs cs' : List (Str × Nat)} {cc : List (Str × Addr)} {σ σ' : St} {s : Shared} {ρ : Map} {Q : List (Str × Addr) → Shared → Prop}, mkCells names cs σ = (cs', σ') → Rep fa base ρ σ s.heap → RC ρ cs cc →
      (∀ ρ' s' cc', ρ.Le ρ' → Ok s s' → Rep fa base ρ' σ' s'.heap → RC ρ' cs' cc' → Q cc' s') → wpAny (model prog w) A (forIn names cc f) Q E s
  | [], cs, cs', cc, σ, σ', s, ρ, Q, e, R, rc, h => by
    cases e
    rw [List.forIn_nil]
    exact wpAny_pure (h ρ s cc (.refl _) (.refl _) R rc)
  | (n, kd) :: r, cs, cs', cc, σ, σ', s, ρ, Q, e, R, rc, h => by
    rw [List.forIn_cons, hf]
    have other : kd ≠ .cell → mkCells r cs σ = (cs', σ') → wpAny (model prog w) A ((if kd == .cell then (do let a ← PySem.alloc { cls := .type "cell", data := .cell none }; pure (.yield ((n, a) :: cc))) else pure (.yield cc) : Sem (ForInStep (List (Str × Addr)))) >>= fun x => match x with | .done b => pure b | .yield b => forIn r b f) Q E s := by
      intro hk e
      rw [if_neg (by simpa using hk)]
      exact wpAny_bind (wpAny_pure (cells_snd f hf r e R rc h))
    cases kd with
    | cell =>
      rw [if_pos (show (NameKind.cell == NameKind.cell) = true from rfl)]
      refine wpAny_bind (wpAny_bind (wpAny_alloc (wpAny_pure ?_)))
      refine cells_snd f hf r (show mkCells r ((n, σ.n) :: cs) (σ.push (.cell none)) = (cs', σ') from e) (R.pushed _ (o' := .cell none) ⟨none, rfl, trivial⟩) (.cons (addM_self ..) (rc.mono (R.le_add _))) fun ρ' s' cc' l o R' rc' => ?_
      exact h ρ' s' cc' ((R.le_add _).trans l) (Ok.trans (.heap _ _) o) R' rc'
    | _ => exact other (by intro z; cases z) e
theorem clos_snd (RE : REnv ρ env ce) (f : Str × NameKind → List (Str × Addr) → Sem (ForInStep (List (Str × Addr))))
    (hf : ∀ name kind cells, f (name, kind) cells = if kind == .free then (do let a ← cellOf ce name; pure (.yield ((name, a) :: cells))) else pure (.yield cells)) :
    ∀ (names : List (Str × NameKind)) {cs cs' : List (Str × Nat)} {cc : List (Str × Addr)} {Q : List (Str × Addr) → Shared → Prop}, closA env names cs = some cs' → RC ρ cs cc →
      (∀ cc', RC ρ cs' cc' → Q cc' s) → wpAny (model prog w) A (forIn names cc f) Q E s
  | [], cs, cs', cc, Q, e, rc, h => by
    cases e
    rw [List.forIn_nil]
    exact wpAny_pure (h cc rc)
  | (n, kd) :: r, cs, cs', cc, Q, e, rc, h => by
    rw [List.forIn_cons, hf]
    have other : kd ≠ .free → closA env r cs = some cs' → wpAny (model prog w) A ((if kd == .free then (do let a ← cellOf ce n; pure (.yield ((n, a) :: cc))) else pure (.yield cc) : Sem (ForInStep (List (Str × Addr)))) >>= fun x => match x with | .done b => pure b | .yield b => forIn r b f) Q E s := by
      intro hk e
      rw [if_neg (by simpa using hk)]
      exact wpAny_bind (wpAny_pure (clos_snd RE f hf r e rc h))
    cases kd with
    | free =>
      rw [if_pos (show (NameKind.free == NameKind.free) = true from rfl)]
      have e' : (match lk env.cells n with | some c => closA env r ((n, c) :: cs) | none => none) = some cs' := e
      split at e'
      · rename_i c hc
        obtain ⟨d, h1, h2⟩ := RE.cells.look hc
        exact wpAny_bind (wpAny_bind (wpAny_cellOf h1 (wpAny_pure (clos_snd RE f hf r e' (.cons h2 rc) h))))
      · cases e'
    | _ => exact other (by intro z; cases z) e
theorem closureFor_snd (RE : REnv ρ env ce) {scope : Scope} {cs' : List (Str × Nat)} {Q : List (Str × Addr) → Shared → Prop} (e : closA env scope.names [] = some cs') (h : ∀ cc', RC ρ cs' cc' → Q cc' s) : wpAny (model prog w) A (closureFor scope ce) Q E s := by
  unfold closureFor
  refine wpAny_bind (m := forIn scope.names _ _) (clos_snd RE _ (fun name kind cells => by cases hk : kind == NameKind.free <;> simp [hk]) scope.names e .nil fun cc' rc => wpAny_pure (h cc' rc))

theorem newEnv_snd {scope : Scope} {closure : List (Str × Nat)} {cc : List (Str × Addr)} {env' : AEnv} {σ' : St} {around : Option Env} {qual : Str} {func : Option Addr} {code : Value} {globals builtins : Addr} {binds : List (Str × Value)} {Q : Env → Shared → Prop}
    (R : Rep fa base ρ σ s.heap) (rc : RC ρ closure cc) (e : mkEnv scope closure σ = (env', σ')) (hg : globals = mainGlobals) (hb : (match around with | some o => o.builtins | none => builtins) = builtinsNs) (hk : scope.kind = .function)
    (h : ∀ ρ' s' ce', ρ.Le ρ' → Ok s s' → Rep fa base ρ' σ' s'.heap → REnv ρ' env' ce' → wpAny (model prog w) A (do for (name, v) in binds do storeName ce' name v
                                                                                                                      return ce') Q E s') :
    wpAny (model prog w) A (newFunctionEnv scope globals cc binds qual func code around builtins) Q E s := by
  unfold newFunctionEnv
  refine wpAny_bind (wpAny_alloc ?_)
  have hn : StrKeys (#[] : Array DictEntry) := fun e he => by simp at he
  have R1 : Rep fa base (addM ρ σ.n s.heap.objs.size) (σ.push (.ns [])) (s.heap.push { cls := .type (if around.isSome then "dict" else "frame"), data := .dict #[] }) :=
    R.pushed _ (o' := .ns []) ⟨#[], 0, rfl, hn, fun x => by simp [lk, nsFind, findBy, RVo]⟩
  obtain ⟨e1, e2⟩ := Prod.mk.inj e
  refine wpAny_bind (m := forIn scope.names _ _) (cells_snd (A := A) _ (fun name kind cells => by cases hkc : kind == NameKind.cell <;> simp [hkc]) scope.names (cs := closure) (cs' := (mkCells scope.names closure (σ.push (.ns []))).1) (σ' := σ') (s := { s with heap := s.heap.push { cls := .type (if around.isSome then "dict" else "frame"), data := .dict #[] } })
    (by rw [← e2]) R1 (rc.mono (R.le_add _)) fun ρ' s' cc' l o R' rc' => ?_)
  have ens : ρ' σ.n = some s.heap.objs.size := l _ _ (addM_self ..)
  cases around with
  | none =>
    refine h ρ' s' _ ((R.le_add _).trans l) (Ok.trans (.heap _ _) o) R' ?_
    rw [← e1]
    exact ⟨rfl, hk, ens, hg, hb, rc'⟩
  | some outer =>
    refine h ρ' s' _ ((R.le_add _).trans l) (Ok.trans (.heap _ _) o) R' ?_
    rw [← e1]
    exact ⟨rfl, hk, ens, hg, hb, rc'⟩
end
end Mine
end

noncomputable section
set_option autoImplicit false
namespace Mine
open PySem
open PyProof.Rows (AllBare StrsAre)

section
variable {prog : Program} {w : World} {fa : Nat → Addr} {T : Tab} {base : Addr → Option Obj} {A : Around} {E : Value → Shared → Prop} {s : Shared} {ρ : Map} {σ : St} {env : AEnv} {ce : Env} {k : Nat} {O : Ops}

def isIt : AO → Prop
  | .liter .. => True
  | .riter .. => True
  | .siter .. => True
  | _ => False
theorem isIt.live {o : AO} (h : isIt o) : o.live := by cases o <;> first | trivial | exact h.elim
theorem next_at {it : Nat} {v : AV} {σ' : St} (e : nextA it σ = some (some v, σ')) : ∃ o, σ'.at it = some o ∧ isIt o := by
  unfold nextA at e
  split at e
  · split at e
    · split at e
      · cases e; exact ⟨_, (St.at_set ..).trans (if_pos rfl), trivial⟩
      · cases e
    · cases e
  · split at e
    · cases e; exact ⟨_, (St.at_set ..).trans (if_pos rfl), trivial⟩
    · cases e
  · split at e
    · cases e; exact ⟨_, (St.at_set ..).trans (if_pos rfl), trivial⟩
    · cases e
  · cases e
theorem iter_at {v : AV} {i : Nat} {σ' : St} (e : iterA v σ = some (i, σ')) : i = σ.n ∧ ∃ o, σ' = σ.push o ∧ isIt o := by
  unfold iterA at e
  split at e
  · cases e; exact ⟨rfl, _, rfl, trivial⟩
  · split at e
    · cases e; exact ⟨rfl, _, rfl, trivial⟩
    · split at e
      · cases e; exact ⟨rfl, _, rfl, trivial⟩
      · cases e
    · cases e
  · cases e

theorem iterself_snd {i : Nat} {a : Addr} {o : AO} {Q : Value → Shared → Prop} (R : Rep fa base ρ σ s.heap) (e : σ.at i = some o) (hi : isIt o) (ea : ρ i = some a) (h : Q (.ref a) s) : wpAny (model prog w) A (pyIter (.ref a)) Q E s := by
  obtain ⟨ob, g, ro⟩ := R.getAt e ea hi.live
  cases o with
  | liter l j =>
    obtain ⟨al, el, hc, hd⟩ := ro
    exact wpAny_pyIter_listiter (i := j) ⟨ob, g, hc, hd⟩ h
  | riter x left =>
    cases ro
    exact wpAny_pyIter_rangeiter g h
  | siter x j =>
    obtain ⟨TT, t, hT, hc, hd⟩ := ro
    rcases hT with rfl | rfl
    · exact wpAny_pyIter_striter_ascii (i := j) ⟨ob, g, hc, hd⟩ h
    · exact wpAny_pyIter_striter_wide (i := j) ⟨ob, g, hc, hd⟩ h
  | _ => exact hi.elim
theorem letOwn_snd {i : Nat} {a : Addr} {o : AO} {t : Expr} {v : Value} {Q : Unit → Shared → Prop} (R : Rep fa base ρ σ s.heap) (e : σ.at i = some o) (hi : isIt o) (ea : ρ i = some a) (h : Q () s) : wpAny (model prog w) A (letOwnedTupleGo t (.ref a) v) Q E s := by
  obtain ⟨ob, g, ro⟩ := R.getAt e ea hi.live
  have cls : ∃ n vs, ob.cls = .type n ∧ ob.data = .fields vs ∧ (["enumerate", "zip", "dict_itemiterator", "dict_reverseitemiterator", "odict_iterator", "itertools.zip_longest", "itertools.pairwise"] : List String).contains n = false := by
    cases o with
    | liter l j => obtain ⟨al, el, hc, hd⟩ := ro; exact ⟨_, _, hc, hd, by decide +kernel⟩
    | riter x left => cases ro; exact ⟨_, _, rfl, rfl, by decide +kernel⟩
    | siter x j =>
      obtain ⟨TT, t, hT, hc, hd⟩ := ro
      rcases hT with rfl | rfl
      · exact ⟨_, _, hc, hd, by decide +kernel⟩
      · exact ⟨_, _, hc, hd, by decide +kernel⟩
    | _ => exact hi.elim
  obtain ⟨n, vs, hc, hd, hn⟩ := cls
  have go : wpAny (model prog w) A (do
      let (.ref r, .ref a) := (Value.ref a, v) | return
      let o ← load r
      match o.cls, o.data with
      | .type n, .fields vs =>
        if ["enumerate", "zip", "dict_itemiterator", "dict_reverseitemiterator", "odict_iterator", "itertools.zip_longest", "itertools.pairwise"].contains n && vs[0]? == some (rawInt a) then
          rule "for.unpacks-the-owned-tuple"
          updateField r 0 .none
      | _, _ => pure ()) Q E s := by
    cases v with
    | ref b =>
      show wpAny _ A (load a >>= _) _ _ s
      refine wpAny_bind (wpAny_load g ?_)
      rw [hc, hd]
      dsimp only
      rw [hn, Bool.false_and, if_neg (by decide)]
      exact wpAny_pure h
    | _ => exact wpAny_pure h
  cases t with
  | Tuple es kk p => exact go
  | List es p => exact go
  | _ => exact wpAny_pure h

/-! for -/
theorem for_snd (IH : Snd prog w fa base O) {t : Expr} {it : Nat} {b : List Stmt} {f : AFlow} {σ' : St} {a : Addr} {R' : Result → Shared → Prop} (e : stepFor O k t it b env σ = some (f, σ')) (hr : Room A k) (R : Rep fa base ρ σ s.heap) (RE : REnv ρ env ce) (ea : ρ it = some a)
    (h : ∀ ρ' s' f', ρ.Le ρ' → Ok s s' → Rep fa base ρ' σ' s'.heap → FlowOk fa ρ' f f' → R' (.ok f') s') : codeAny (model prog w) A (.forLoop t (.ref a) b [] ce) R' s := by
  refine codeAny_of_tree ?_
  show wpAny _ A ((forTurn t (.ref a) b [] ce).onRaise (fun x => do noteFrame x ce; theTreesLotGoes x)) _ _ s
  refine wpAny_noted ?_
  unfold forTurn
  refine wpAny_bind (wpAny_standAt (wpAny_bind (wpAny_onRaise ?_)))
  unfold stepFor at e
  split at e
  · rename_i σ1 h1
    cases e
    refine next_snd hr R h1 ea fun s1 o1 R1 => ?_
    exact wpAny_pure ⟨rfl, codeAny_block (wpAny_execs_nil (h ρ s1 .next (.refl _) o1 R1 rfl))⟩
  · rename_i v σ1 h1
    split at e
    · rename_i σ2 h2
      refine next_snd hr R h1 ea fun s1 o1 R1 => ?_
      intro v' rv
      obtain ⟨o, hat, hit⟩ := next_at h1
      refine wpAny_bind (letOwn_snd R1 hat hit ea (wpAny_bind (assign_snd hr R1 RE h2 rv fun s2 o2 R2 => ?_)))
      have fin : ∀ {f1 : AFlow} {σ3 : St}, O.exs k b env σ2 = some (f1, σ3) →
          (∀ ρ3 s3 f3, ρ.Le ρ3 → Ok s s3 → Rep fa base ρ3 σ3 s3.heap → FlowOk fa ρ3 f1 f3 →
            (match f3 with | .next | .cont => codeAny (model prog w) A (.forLoop t (.ref a) b [] ce) R' s3 | .brk => R' (.ok .next) s3 | .ret v => R' (.ok (.ret v)) s3)) →
          wpAny (model prog w) A (execs b ce >>= fun __do_lift => match __do_lift with
            | .next | .cont => again (.forLoop t (.ref a) b [] ce)
            | .brk => pure (.done .next)
            | .ret v => pure (.done (.ret v))) (fun fin s' => match fin with | .done f => R' (.ok f) s' | .again c' => c'.quiet = true ∧ codeAny (model prog w) A c' R' s') (notedBy (model prog w) A ce fun e s' => R' (.error e) s') s2 := by
        intro f1 σ3 h3 hf
        refine wpAny_bind (IH.exs h3 hr R2 RE fun ρ3 s3 f3 l3 o3 R3 hf3 => ?_)
        have := hf ρ3 s3 f3 l3 (o1.trans (o2.trans o3)) R3 hf3
        cases f3 with
        | next => exact wpAny_pure ⟨rfl, this⟩
        | cont => exact wpAny_pure ⟨rfl, this⟩
        | brk => exact wpAny_pure this
        | ret v => exact wpAny_pure this
      split at e
      · rename_i σ3 h3
        refine fin h3 fun ρ3 s3 f3 l3 o3 R3 hf3 => ?_
        cases hf3
        exact IH.forL e hr R3 (RE.mono l3) (l3 _ _ ea) fun ρ' s' f' l' o' Rx hx => h ρ' s' f' (l3.trans l') (o3.trans o') Rx hx
      · rename_i σ3 h3
        refine fin h3 fun ρ3 s3 f3 l3 o3 R3 hf3 => ?_
        cases hf3
        exact IH.forL e hr R3 (RE.mono l3) (l3 _ _ ea) fun ρ' s' f' l' o' Rx hx => h ρ' s' f' (l3.trans l') (o3.trans o') Rx hx
      · rename_i σ3 h3
        cases e
        refine fin h3 fun ρ3 s3 f3 l3 o3 R3 hf3 => ?_
        cases hf3
        exact h ρ3 s3 _ l3 o3 R3 rfl
      · rename_i v1 σ3 h3
        cases e
        refine fin h3 fun ρ3 s3 f3 l3 o3 R3 hf3 => ?_
        obtain ⟨v1', rfl, rv1⟩ := hf3
        exact h ρ3 s3 _ l3 o3 R3 ⟨_, rfl, rv1⟩
      · cases e
    · cases e
  · cases e

theorem whl_snd (IH : Snd prog w fa base O) {t : Expr} {b : List Stmt} {f : AFlow} {σ' : St} {R' : Result → Shared → Prop} (e : stepWhl O k t b env σ = some (f, σ')) (hr : Room A k) (R : Rep fa base ρ σ s.heap) (RE : REnv ρ env ce)
    (h : ∀ ρ' s' f', ρ.Le ρ' → Ok s s' → Rep fa base ρ' σ' s'.heap → FlowOk fa ρ' f f' → R' (.ok f') s') : codeAny (model prog w) A (.whileLoop t b [] ce) R' s := by
  refine codeAny_of_tree ?_
  show wpAny _ A ((whileTurn t b [] ce).onRaise (fun x => do noteFrame x ce; theTreesLotGoes x)) _ _ s
  refine wpAny_noted ?_
  unfold whileTurn
  unfold stepWhl at e
  split at e
  · rename_i σ1 h1
    cases e
    refine wpAny_bind (IH.tr h1 hr R RE fun ρ1 s1 l1 o1 R1 => ?_)
    rw [if_neg (by decide)]
    exact wpAny_bind (wpAny_execs_nil (wpAny_pure (h ρ1 s1 .next l1 o1 R1 rfl)))
  · rename_i σ1 h1
    refine wpAny_bind (IH.tr h1 hr R RE fun ρ1 s1 l1 o1 R1 => ?_)
    rw [if_pos rfl]
    have fin : ∀ {f1 : AFlow} {σ3 : St}, O.exs k b env σ1 = some (f1, σ3) →
        (∀ ρ3 s3 f3, ρ.Le ρ3 → Ok s s3 → Rep fa base ρ3 σ3 s3.heap → FlowOk fa ρ3 f1 f3 →
          (match f3 with | .next | .cont => codeAny (model prog w) A (.whileLoop t b [] ce) R' s3 | .brk => R' (.ok .next) s3 | .ret v => R' (.ok (.ret v)) s3)) →
        wpAny (model prog w) A (execs b ce >>= fun __do_lift => match __do_lift with
          | .next | .cont => again (.whileLoop t b [] ce)
          | .brk => pure (.done .next)
          | .ret v => pure (.done (.ret v))) (fun fin s' => match fin with | .done f => R' (.ok f) s' | .again c' => c'.quiet = true ∧ codeAny (model prog w) A c' R' s') (notedBy (model prog w) A ce fun e s' => R' (.error e) s') s1 := by
      intro f1 σ3 h3 hf
      refine wpAny_bind (IH.exs h3 hr R1 (RE.mono l1) fun ρ3 s3 f3 l3 o3 R3 hf3 => ?_)
      have := hf ρ3 s3 f3 (l1.trans l3) (o1.trans o3) R3 hf3
      cases f3 with
      | next => exact wpAny_pure ⟨rfl, this⟩
      | cont => exact wpAny_pure ⟨rfl, this⟩
      | brk => exact wpAny_pure this
      | ret v => exact wpAny_pure this
    split at e
    · rename_i σ3 h3
      refine fin h3 fun ρ3 s3 f3 l3 o3 R3 hf3 => ?_
      cases hf3
      exact IH.whl e hr R3 (RE.mono l3) fun ρ' s' f' l' o' Rx hx => h ρ' s' f' (l3.trans l') (o3.trans o') Rx hx
    · rename_i σ3 h3
      refine fin h3 fun ρ3 s3 f3 l3 o3 R3 hf3 => ?_
      cases hf3
      exact IH.whl e hr R3 (RE.mono l3) fun ρ' s' f' l' o' Rx hx => h ρ' s' f' (l3.trans l') (o3.trans o') Rx hx
    · rename_i σ3 h3
      cases e
      refine fin h3 fun ρ3 s3 f3 l3 o3 R3 hf3 => ?_
      cases hf3
      exact h ρ3 s3 _ l3 o3 R3 rfl
    · rename_i v1 σ3 h3
      cases e
      refine fin h3 fun ρ3 s3 f3 l3 o3 R3 hf3 => ?_
      obtain ⟨v1', rfl, rv1⟩ := hf3
      exact h ρ3 s3 _ l3 o3 R3 ⟨_, rfl, rv1⟩
    · cases e
  · cases e
end
end Mine
end

noncomputable section
set_option autoImplicit false
namespace Mine
open PySem
open PyProof.Rows (AllBare StrsAre)

section
variable {prog : Program} {w : World} {fa : Nat → Addr} {T : Tab} {base : Addr → Option Obj} {A : Around} {E : Value → Shared → Prop} {s : Shared} {ρ : Map} {σ : St} {env : AEnv} {ce : Env} {k : Nat} {O : Ops}

theorem tests_snd (IH : Snd prog w fa base O) (hr : Room A k) (f : Expr → Bool → Sem (ForInStep Bool))
    (hf : ∀ c r, f c r = if r = true then (do let ok ← isTrue c ce (eval c ce); pure (.yield ok)) else pure (.yield r)) {Q : Bool → Shared → Prop} : ∀ {es : List Expr} {b : Bool} {σ σ' : St} {s : Shared} {ρ : Map}, testsA (fun e σ => O.tr k e env σ) es σ = some (b, σ') →
    Rep fa base ρ σ s.heap → REnv ρ env ce → PU fa base ρ σ' s (Q b) → wpAny (model prog w) A (forIn es true f) Q E s
  | [], b, σ, σ', s, ρ, e, R, RE, h => by
    cases e
    rw [List.forIn_nil]
    exact wpAny_pure (h ρ s (.refl _) (.refl _) R)
  | x :: es, b, σ, σ', s, ρ, e, R, RE, h => by
    rw [List.forIn_cons, hf, if_pos rfl]
    unfold testsA at e
    split at e
    · rename_i σ1 h1
      refine wpAny_bind (wpAny_bind (IH.tr h1 hr R RE fun ρ1 s1 l1 o1 R1 => wpAny_pure ?_))
      exact tests_snd IH hr f hf e R1 (RE.mono l1) (h.later l1 o1)
    · rename_i σ1 h1
      cases e
      refine wpAny_bind (wpAny_bind (IH.tr h1 hr R RE fun ρ1 s1 l1 o1 R1 => wpAny_pure ?_))
      have off : ∀ (es : List Expr), wpAny (model prog w) A (forIn es false f) Q E s1 := by
        intro es
        induction es with
        | nil => rw [List.forIn_nil]; exact wpAny_pure (h ρ1 s1 l1 o1 R1)
        | cons y r ih => rw [List.forIn_cons, hf, if_neg (by decide)]; exact wpAny_bind (wpAny_pure ih)
      exact off es
    · cases e

theorem compStart_snd {elt : Expr} {gens : List Comprehension} {scope : Scope} {pos : Pos} {d : Nat} {t iter : Expr} {ifs : List Expr} {acc : Value} {a : Addr} {i : Nat} {o : AO} {R' : Result → Shared → Prop} (hd : gens[d]? = some ⟨t, iter, ifs, 0⟩)
    (R : Rep fa base ρ σ s.heap) (e : σ.at i = some o) (hi : isIt o) (ea : ρ i = some a)
    (h : codeAny (model prog w) A (.compLoop (.ListComp elt gens scope pos) d (.ref a) acc ce) R' s) : codeAny (model prog w) A (.compStart (.ListComp elt gens scope pos) d (.ref a) acc ce) R' s := by
  refine codeAny_of_tree ?_
  show wpAny _ A ((compStart (.ListComp elt gens scope pos) d (.ref a) acc ce).onRaise (fun x => do noteFrame x ce; standAt theWindowsPlace)) _ _ s
  refine wpAny_notedAt ?_
  unfold compStart
  have hcl : (clausesOf (.ListComp elt gens scope pos))[d]? = some ⟨t, iter, ifs, 0⟩ := hd
  rw [hcl]
  show wpAny _ A (ask >>= _) _ _ s
  refine wpAny_bind (wpAny_askSetting (wpAny_ite ?_))
  split
  · first
      | exact wpAny_bind (wpAny_pure (wpAny_pure (And.intro rfl h)))
      | exact wpAny_pure (And.intro rfl h)
  · refine wpAny_bind (wpAny_rule ?_)
    refine wpAny_bind (wpAny_standAt ?_)
    exact wpAny_bind (iterself_snd R e hi ea (wpAny_pure (And.intro rfl h)))

theorem comp_snd (IH : Snd prog w fa base O) {x : Expr} {d it acc : Nat} {σ' : St} {a c : Addr} {R' : Result → Shared → Prop} (e : stepComp O k x d it acc env σ = some σ') (hr : Room A k) (R : Rep fa base ρ σ s.heap) (RE : REnv ρ env ce) (ea : ρ it = some a) (ec : ρ acc = some c)
    (h : ∀ ρ' s', ρ.Le ρ' → Ok s s' → Rep fa base ρ' σ' s'.heap → R' (.ok .next) s') : codeAny (model prog w) A (.compLoop x d (.ref a) (.ref c) ce) R' s := by
  unfold stepComp at e
  split at e
  · rename_i elt gens scope pos
    split at e
    · rename_i t iter ifs hd
      rw [nth_eq] at hd
      refine codeAny_of_tree ?_
      show wpAny _ A ((compTurn (.ListComp elt gens scope pos) d (.ref a) (.ref c) ce).onRaise (fun x => do noteFrame x ce; theTreesLotGoes x)) _ _ s
      refine wpAny_noted ?_
      unfold compTurn
      simp only [hd]
      refine wpAny_bind (wpAny_standAt ?_)
      rw [if_neg (by decide)]
      split at e
      · rename_i σ1 h1
        cases e
        refine wpAny_bind (next_snd hr R h1 ea fun s1 o1 R1 => ?_)
        exact wpAny_pure (h ρ s1 (.refl _) o1 R1)
      · rename_i v σ1 h1
        split at e
        · rename_i σ2 h2
          refine wpAny_bind (next_snd hr R h1 ea fun s1 o1 R1 => ?_)
          intro v' rv
          obtain ⟨o, hat, hit⟩ := next_at h1
          refine wpAny_bind (letOwn_snd R1 hat hit ea (wpAny_bind (assign_snd hr R1 RE h2 rv fun s2 o2 R2 => ?_)))
          have again_ : ∀ {ρ3 : Map} {σ3 : St} {s3 : Shared}, O.comp k (.ListComp elt gens scope pos) d it acc env σ3 = some σ' → ρ.Le ρ3 → Ok s s3 → Rep fa base ρ3 σ3 s3.heap →
              wpAny (model prog w) A (again (.compLoop (.ListComp elt gens scope pos) d (.ref a) (.ref c) ce)) (fun fin s' => match fin with | .done f => R' (.ok f) s' | .again c' => c'.quiet = true ∧ codeAny (model prog w) A c' R' s') (notedBy (model prog w) A ce fun e s' => R' (.error e) s') s3 := by
            intro ρ3 σ3 s3 e3 l3 o3 R3
            exact wpAny_pure ⟨rfl, IH.comp e3 hr R3 (RE.mono l3) (l3 _ _ ea) (l3 _ _ ec) fun ρ' s' l' o' Rx => h ρ' s' (l3.trans l') (o3.trans o') Rx⟩
          split at e
          · rename_i σ3 h3
            refine wpAny_bind (tests_snd IH hr _ (fun c r => by cases r <;> rfl) h3 R2 RE fun ρ3 s3 l3 o3 R3 => ?_)
            rw [if_neg (by decide)]
            first
              | exact again_ e l3 (o1.trans (o2.trans o3)) R3
              | exact wpAny_bind (wpAny_pure (again_ e l3 (o1.trans (o2.trans o3)) R3))
          · rename_i σ3 h3
            refine wpAny_bind (tests_snd IH hr _ (fun c r => by cases r <;> rfl) h3 R2 RE fun ρ3 s3 l3 o3 R3 => ?_)
            rw [if_pos rfl]
            have o13 := o1.trans (o2.trans o3)
            split at e
            · rename_i t' iter' ifs' hd'
              rw [nth_eq] at hd'
              split at e
              · rename_i x' σ4 h4 h5
                split at e
                · rename_i i' σ5 h6
                  split at e
                  · rename_i σ6 h7
                    simp only [hd']
                    refine wpAny_bind (IH.ev h5 hr R3 (RE.mono l3) fun ρ4 x4 s4 l4 o4 R4 r4 => ?_)
                    refine wpAny_bind (wpAny_standAt ?_)
                    rw [if_neg (by decide), set_pure h4]
                    refine wpAny_bind (wpAny_pure ?_)
                    rw [if_neg (by decide)]
                    refine wpAny_bind (wpAny_holding (iter_snd R4 h6 r4 fun ρ5 s5 a5 l5 o5 R5 e5 => ?_))
                    obtain ⟨hi', o', hp', hit'⟩ := iter_at h6
                    have l35 := l3.trans (l4.trans l5)
                    refine wpAny_bind (wpAny_runOwn (compStart_snd hd' R5 (o := o') (i := i') (by rw [hp', hi', St.at_push, if_pos rfl]) hit' e5 ?_))
                    refine IH.comp h7 hr R5 (RE.mono l35) e5 (l35 _ _ ec) fun ρ6 s6 l6 o6 R6 => ?_
                    exact again_ e (l35.trans l6) (o13.trans (o4.trans (o5.trans o6))) R6
                  · cases e
                · cases e
              · cases e
            · cases e
            · rename_i hd'
              rw [nth_eq] at hd'
              split at e
              · rename_i v1 σ4 h4
                split at e
                · rename_i xs hx
                  split at e
                  · rename_i hs
                    simp only [hd']
                    refine wpAny_bind (wpAny_bind (IH.ev h4 hr R3 (RE.mono l3) fun ρ4 x4 s4 l4 o4 R4 r4 => ?_))
                    have l34 := l3.trans l4
                    refine wpAny_bind (appended R4 hx (l34 _ _ ec) hs r4 fun s5 o5 R5 => wpAny_pure ?_)
                    exact again_ e l34 (o13.trans (o4.trans o5)) R5
                  · cases e
                · cases e
              · cases e
          · cases e
        · cases e
      · cases e
    · cases e
  · cases e
end
end Mine
end

noncomputable section
set_option autoImplicit false
namespace Mine
open PySem
open PyProof.Rows (AllBare StrsAre)

section
variable {prog : Program} {w : World} {fa : Nat → Addr} {T : Tab} {base : Addr → Option Obj} {A : Around} {E : Value → Shared → Prop} {s : Shared} {ρ : Map} {σ : St} {env : AEnv} {ce : Env} {k : Nat} {O : Ops}

theorem own_eq (RE : REnv ρ env ce) (scope : Scope) :
    ({ scope with names := scope.names.map fun (n, k) => if (k == .free && ce.scope.kind == .function && ce.kindOf n == some .cell) then (n, .cell) else (n, k) } : Scope) = compScope env scope := by
  unfold compScope
  congr 1
  apply List.map_congr_left
  rintro ⟨n, kd⟩ _
  show (if (kd == .free && ce.scope.kind == .function && ce.kindOf n == some .cell) then (n, NameKind.cell) else (n, kd)) = ownKind env (n, kd)
  rw [RE.scope, RE.kind, RE.kindOf]
  unfold ownKind
  cases kd with
  | free =>
    show (if (true && true && (lk env.scope.names n == some .cell)) then (n, NameKind.cell) else (n, .free)) = match lk env.scope.names n with | some .cell => (n, .cell) | _ => (n, .free)
    cases h : lk env.scope.names n with
    | none => rfl
    | some kk => cases kk <;> rfl
  | _ => rfl
theorem namesOk_mem {all : List (Str × NameKind)} : ∀ {l : List (Str × NameKind)}, namesOk all l = true → ∀ x ∈ l, x.2 = .local → lk all x.1 = some .local
  | p :: r, h, x, hx, hl => by
    unfold namesOk at h
    have rest : namesOk all r = true → x ∈ r → lk all x.1 = some .local := fun h' hm => namesOk_mem h' x hm hl
    split at h
    · rename_i hp
      split at h
      · rename_i hq
        rcases List.mem_cons.mp hx with rfl | hm
        · unfold isLocal at hq
          split at hq
          · rename_i z; exact z
          · cases hq
        · exact rest h hm
      · cases h
    · rename_i hp
      rcases List.mem_cons.mp hx with rfl | hm
      · exact absurd hl hp
      · exact rest h hm
theorem namesOk_kind {scope scope' : Scope} (h : namesOk scope'.names scope.names = true) {ce : Env} : ∀ x ∈ scope.names, x.2 = .local → ({ ce with scope := scope' } : Env).kindOf x.1 = some .local := fun x hx hl => by
  have := namesOk_mem h x hx hl
  rw [lk_eq] at this
  exact this
theorem cells_n : ∀ {names : List (Str × NameKind)} {cs cs' : List (Str × Nat)} {σ σ' : St}, mkCells names cs σ = (cs', σ') → σ.n ≤ σ'.n ∧ ∀ i, i < σ.n → σ'.at i = σ.at i
  | [], cs, cs', σ, σ', e => by cases e; exact ⟨Nat.le_refl _, fun _ _ => rfl⟩
  | (n, kd) :: r, cs, cs', σ, σ', e => by
    have other : mkCells r cs σ = (cs', σ') → σ.n ≤ σ'.n ∧ ∀ i, i < σ.n → σ'.at i = σ.at i := fun e => cells_n e
    cases kd with
    | cell =>
      have e' : mkCells r ((n, σ.n) :: cs) (σ.push (.cell none)) = (cs', σ') := e
      obtain ⟨h1, h2⟩ := cells_n e'
      rw [St.push_n] at h1
      refine ⟨by omega, fun i hi => ?_⟩
      rw [h2 i (by rw [St.push_n]; omega), St.at_push, if_neg (by omega)]
    | _ => exact other e

/-- the comprehension, up to its loop's end -/
theorem compCore (IH : Snd prog w fa base O) {x : Expr} {v : AV} {σ' : St} (e : compA O k x env σ = some (v, σ')) (hr : Room A k) (R : Rep fa base ρ σ s.heap) (RE : REnv ρ env ce) :
    ∃ elt t iter ifs rest scope pos, x = .ListComp elt (⟨t, iter, ifs, 0⟩ :: rest) scope pos ∧ notSet iter = true ∧
    ∃ acc nsi σ1, v = .ref acc ∧ σ' = σ1.set nsi .junk ∧
    ∀ (use : Option (Value → Sem Unit)) (cpos : Pos) (Q : Value → Shared → Prop),
      (∀ ρ1 s1 c (cenv : Env), ρ.Le ρ1 → Ok s s1 → Rep fa base ρ1 σ1 s1.heap → ρ1 acc = some c → ρ1 nsi = some cenv.locals → σ1.live nsi → (∃ m, σ1.at nsi = some (.ns m)) → nsi ≠ env.ns →
        ∀ (cellsOf : List (Str × NameKind) → List Value) (vars : List (Str × NameKind)), cenv.scope.kind = .function → (∀ y ∈ vars, y.2 = .local → cenv.kindOf y.1 = some .local) →
          (match use with
            | none => wpAny (model prog w) A (do holding [Value.ref c] (comprehension.letGo cenv cellsOf vars.reverse); pure (Value.ref c)) Q E s1
            | some u => wpAny (model prog w) A (do rule "comprehension.stores-exchanged"; holding (cellsOf vars) (u (.ref c)); comprehension.letGo cenv cellsOf (vars.reverse.drop 1 ++ vars.reverse.take 1); pure Value.none) Q E s1)) →
      wpAny (model prog w) A (comprehension x scope ce cpos (newList []) false (eval iter ce) use) Q E s := by
  unfold compA at e
  split at e
  · rename_i elt gens scope pos
    split at e
    · rename_i t iter ifs rest
      split at e
      · rename_i x0 σ2 h1 h2
        split at e
        · rename_i it σ3 h3
          split at e
          · rename_i cl h4 h5 h6
            dsimp only at e
            split at e
            · rename_i σ4 h7
              split at e
              · rename_i m4 h8
                cases e
                have hkf : scope.kind = .function := by
                  unfold isFun at h4
                  split at h4
                  · assumption
                  · cases h4
                refine ⟨elt, t, iter, ifs, rest, scope, pos, rfl, h1, _, _, σ4, rfl, rfl, ?_⟩
                intro use cpos Q h
                unfold comprehension
                refine wpAny_bind (IH.ev h2 hr R RE fun ρ1 x1 s1 l1 o1 R1 r1 => ?_)
                refine wpAny_bind (wpAny_standAt ?_)
                show wpAny _ A (foldedSetIterable iter ce x1 >>= _) _ _ s1
                refine wpAny_bind (wpAny_of_eq (set_pure h1 x1) ?_)
                show wpAny _ A (holding [x1] (pyIter x1) >>= _) _ _ s1
                refine wpAny_bind (wpAny_holding (iter_snd R1 h3 r1 fun ρ2 s2 a l2 o2 R2 ea => ?_))
                obtain ⟨hi', o', hp', hit'⟩ := iter_at h3
                refine wpAny_standIf ?_
                have R3 := R2.pushed (listObj #[] 0) (o' := .list []) ⟨_, _, rfl, .nil⟩
                refine wpAny_bind (wpAny_newObj_type ?_ (by size_fits))
                have l3 := R2.le_add s2.heap.objs.size
                have l13 := l1.trans (l2.trans l3)
                refine wpAny_bind (closureFor_snd (RE.mono l13) h6 fun cc rc => ?_)
                refine wpAny_bind (newEnv_snd (σ := σ3.push (.list [])) (s := { s2 with heap := s2.heap.push (listObj #[] 0) }) R3 rc (env' := (mkEnv scope cl (σ3.push (.list []))).1) (σ' := (mkEnv scope cl (σ3.push (.list []))).2) rfl RE.globals RE.builtins hkf fun ρ4 s4 cenv l4 o4 R4 RE4 => ?_)
                refine wpAny_bind ?_
                rw [List.forIn_nil]
                refine wpAny_pure (wpAny_pure ?_)
                dsimp only
                rw [own_eq RE]
                have RE5 : REnv ρ4 { (mkEnv scope cl (σ3.push (.list []))).1 with scope := compScope env scope } { cenv with scope := compScope env scope } :=
                  ⟨rfl, hkf, RE4.ns, RE4.globals, RE4.builtins, RE4.cells⟩
                have hne : ∀ {ρ' : Map}, ρ4.Le ρ' → σ3.n + 1 ≠ env.ns := fun _ z => by
                  have e1 := l1.trans l2 _ _ RE.ns
                  have := R2.lt _ _ e1
                  omega
                have hat : (mkEnv scope cl (σ3.push (.list []))).2.at it = some o' := by
                  have z := (cells_n (show mkCells scope.names cl ((σ3.push (.list [])).push (.ns [])) = (_, (mkEnv scope cl (σ3.push (.list []))).2) from rfl)).2 it (by
                    rw [St.push_n, St.push_n, hp', St.push_n, hi']; omega)
                  rw [z, St.at_push, if_neg (by rw [St.push_n, hp', St.push_n, hi']; omega), St.at_push, if_neg (by rw [hp', St.push_n, hi']; omega), hp', St.at_push, if_pos hi']
                refine wpAny_holding (wpAny_bind (wpAny_attempt (wpAny_holding (wpAny_run (compStart_snd (d := 0) rfl R4 hat hit' (l4 _ _ (l3 _ _ ea)) ?_)))))
                refine IH.comp h7 hr R4 RE5 (l4 _ _ (l3 _ _ ea)) (l4 _ _ (addM_self ..)) fun ρ5 s5 l5 o5 R5 => ?_
                have en := l5 _ _ RE4.ns
                have key := h ρ5 s5 s2.heap.objs.size { cenv with scope := compScope env scope } (l13.trans (l4.trans l5)) (o1.trans (o2.trans (Ok.trans (.heap _ _) (o4.trans o5)))) R5 (l5 _ _ (l4 _ _ (addM_self ..))) en ⟨_, h8, trivial⟩ ⟨_, h8⟩ (hne l5)
                cases use with
                | none => exact key _ _ hkf (fun y hy hl => namesOk_kind h5 y (List.mem_filter.mp hy).1 hl)
                | some u => exact key _ _ hkf (fun y hy hl => namesOk_kind h5 y (List.mem_filter.mp hy).1 hl)
              · cases e
            · cases e
          · cases e
        · cases e
      · cases e
    · cases e
  · cases e
end
end Mine
end

noncomputable section
set_option autoImplicit false
namespace Mine
open PySem
open PyProof.Rows (AllBare StrsAre)

section
variable {prog : Program} {w : World} {fa : Nat → Addr} {T : Tab} {base : Addr → Option Obj} {A : Around} {E : Value → Shared → Prop} {s : Shared} {ρ : Map} {σ : St} {env : AEnv} {ce : Env} {k : Nat} {O : Ops}

theorem Rep.congr {h : Heap} {τ : St} (R : Rep fa base ρ σ h) (e : ∀ i, τ.at i = σ.at i) (en : τ.n = σ.n) : Rep fa base ρ τ h where
  obj i o x l := R.obj i o (by rw [← e]; exact x) l
  inj i j a l1 l2 := R.inj i j a (by obtain ⟨o, x, l⟩ := l1; exact ⟨o, by rw [← e]; exact x, l⟩) (by obtain ⟨o, x, l⟩ := l2; exact ⟨o, by rw [← e]; exact x, l⟩)
  lt i a x := by rw [en]; exact R.lt i a x
  own i a l x := R.own i a (by obtain ⟨o, x, l⟩ := l; exact ⟨o, by rw [← e]; exact x, l⟩) x
  keep := R.keep

theorem compE_snd (IH : Snd prog w fa base O) {x : Expr} {v : AV} {σ' : St} {Q : Value → Shared → Prop} (e : compA O k x env σ = some (v, σ')) (hr : Room A k) (R : Rep fa base ρ σ s.heap) (RE : REnv ρ env ce) (h : PV fa base ρ σ' v s Q) :
    wpAny (model prog w) A (eval x ce) Q E s := by
  obtain ⟨elt, t, iter, ifs, rest, scope, pos, rfl, _, acc, nsi, σ1, rfl, rfl, core⟩ := compCore (E := E) IH e hr R RE
  rw [eval_ListComp]
  refine core none _ Q fun ρ1 s1 c cenv l1 o1 R1 ec en li hns hne cellsOf vars hk hv => ?_
  obtain ⟨m1, hm1⟩ := hns
  obtain ⟨m, hn, _⟩ := R1.ns hm1 en
  refine wpAny_bind (wpAny_holding (wpAny_comp_letGo (cenv := cenv) hk _ s1 m (fun y hy hl => hv y (List.mem_reverse.mp hy) hl) hn fun h' m' _ hs' => wpAny_pure ?_))
  exact h ρ1 _ _ l1 (o1.trans (.heap _ _)) (R1.kill li en fun b o hb e => hs'.extBut b o hb e) ⟨c, ec, rfl⟩

theorem used_swaps (RE : REnv ρ env ce) {value : Expr} {x : Str} {px pos : Pos} : swapsWith value (some (.Name x px)) pos.line ce = pure (usedA value x px env) ∨ ∀ elt gens scope vpos, value ≠ .ListComp elt gens scope vpos := by
  cases value with
  | ListComp elt gens scope vpos =>
    left
    show (pure (ce.blockKind == ScopeKind.function && ce.kindOf x == some NameKind.local && px.line == vpos.line && !scope.names.any fun y => match y with | (n, k) => n == x && (k == NameKind.local || k == NameKind.cell)) : Sem Bool) = pure _
    congr 1
    have h1 : (ce.blockKind == ScopeKind.function) = true := by
      unfold Env.blockKind
      rw [RE.scope, RE.kind]; rfl
    rw [h1, RE.kindOf, Bool.true_and]
    show _ = (match lk env.scope.names x with | some .local => Nat.beq px.line vpos.line && !(scope.names.any fun p => sB p.1 x && (match p.2 with | .local => true | .cell => true | _ => false)) | _ => false)
    have h2 : (scope.names.any fun y => match y with | (n, k) => n == x && (k == NameKind.local || k == NameKind.cell)) = scope.names.any fun p => sB p.1 x && (match p.2 with | .local => true | .cell => true | _ => false) := by
      congr 1
      funext p
      obtain ⟨n, kd⟩ := p
      show (n == x && (kd == NameKind.local || kd == NameKind.cell)) = _
      rw [sB_eq]
      cases kd <;> rfl
    rw [h2]
    cases hk : lk env.scope.names x with
    | none => rfl
    | some kd =>
      cases kd with
      | «local» =>
        rw [show ((some NameKind.local == some NameKind.local) : Bool) = true from rfl, Bool.true_and]
        have hb : (px.line == vpos.line) = Nat.beq px.line vpos.line := by rw [Bool.eq_iff_iff]; simp
        rw [hb]
      | _ => rfl
  | _ => right; intro _ _ _ _ z; cases z

theorem swapped_eq (RE : REnv ρ env ce) {x y : Str} {px py tp vp : Pos} {k1 k2 : Nat} {v1 v2 : Expr} (hx : lk env.scope.names x = some .local) (hy : lk env.scope.names y = some .local) (hne : sB x y = false) (hl : px.line = py.line)
    (hc : (constantsAlone 8 v1 && constantsAlone 8 v2) = false) (hf : (foldedForSure 8 v1 && foldedForSure 8 v2) = false) (hs : (notStar v1 && notStar v2) = true) :
    swappedStores [.Tuple [.Name x px, .Name y py] k1 tp] (.Tuple [v1, v2] k2 vp) ce = pure (some [x, y]) := by
  have hb : (ce.blockKind != ScopeKind.function) = false := by
    unfold Env.blockKind
    rw [RE.scope, RE.kind]; rfl
  have hxy : x ≠ y := sB_false hne
  have hcc : ([v1, v2].all (constantsAlone 8)) = false := by simpa using hc
  have hff : ([v1, v2].all (foldedForSure 8)) = false := by simpa using hf
  have e1 : (Expr.Name x px).pos.line = px.line := rfl
  have e2 : ([x, y].eraseDups).length = 2 := by
    rw [List.eraseDups_cons]
    have : ([y].filter fun b => !b == x) = [y] := by
      rw [List.filter_cons, if_pos (by simpa using Ne.symm hxy)]; rfl
    rw [this]; rfl
  unfold swappedStores
  simp only [hb, Bool.false_eq_true, if_false, hcc, hff]
  rw [Bool.and_eq_true] at hs
  have hn : ([Expr.Name x px, Expr.Name y py].filterMap fun
     | .Name id pos => if ce.kindOf id == some .local && pos.line == (([Expr.Name x px, Expr.Name y py].head?).map (·.pos.line)).getD 0 then some id else none
     | _ => none) = [x, y] := by
    simp [RE.kindOf, hx, hy, hl, e1]
  rw [show (if ((!([Expr.Name x px, Expr.Name y py].length == 2 || [Expr.Name x px, Expr.Name y py].length == 3) || [v1, v2].length != [Expr.Name x px, Expr.Name y py].length || false) = true) then (pure none : Sem (Option (List Str))) else _) = _ from if_neg (by simp)]
  split
  · rename_i z
    exfalso
    simp only [List.any_cons, List.any_nil, Bool.or_false, Bool.or_eq_true] at z
    rcases z with z | z
    · revert z
      cases v1 <;> first | (exfalso; exact absurd hs.1 Bool.false_ne_true) | (intro z; exact Bool.false_ne_true z)
    · revert z
      cases v2 <;> first | (exfalso; exact absurd hs.2 Bool.false_ne_true) | (intro z; exact Bool.false_ne_true z)
  · erw [hn]
    rw [if_neg]
    rw [e2]
    simp
end
end Mine
end

noncomputable section
set_option autoImplicit false
namespace Mine
open PySem
open PyProof.Rows (AllBare StrsAre)

section
variable {prog : Program} {w : World} {fa : Nat → Addr} {T : Tab} {base : Addr → Option Obj} {A : Around} {E : Value → Shared → Prop} {s : Shared} {ρ : Map} {σ : St} {env : AEnv} {ce : Env} {k : Nat} {O : Ops}

theorem used_snd (IH : Snd prog w fa base O) {x : Str} {px pos : Pos} {value : Expr} {v : AV} {σ1 σ' : St} {Q : Flow → Shared → Prop} (hr : Room A k) (R : Rep fa base ρ σ s.heap) (RE : REnv ρ env ce)
    (hu : usedA value x px env = true) (e1 : compA O k value env σ = some (v, σ1)) (e2 : storeA env x v σ1 = some σ')
    (h : ∀ ρ' s', ρ.Le ρ' → Ok s s' → Rep fa base ρ' σ' s'.heap → Q .next s') : wpAny (model prog w) A (exec (.Assign [.Name x px] value pos) ce) Q E s := by
  have hs : swapsWith value (some (.Name x px)) pos.line ce = pure true := by
    rcases used_swaps (pos := pos) RE (value := value) (x := x) (px := px) with z | z
    · rw [z, hu]
    · exfalso
      unfold usedA at hu
      split at hu
      · exact z _ _ _ _ rfl
      · cases hu
  rw [exec_Assign_Name_used _ _ _ _ hs]
  refine wpAny_bind (wpAny_standAt ?_)
  obtain ⟨elt, t, iter, ifs, rest, scope, vpos, rfl, _, acc, nsi, σ2, rfl, rfl, core⟩ := compCore (E := E) IH e1 hr R RE
  have hk : lk env.scope.names x = some .local := by
    unfold usedA at hu
    dsimp only at hu
    split at hu
    · assumption
    · cases hu
  refine wpAny_bind ?_
  show wpAny _ A (do
    let _ ← comprehension (.ListComp elt (⟨t, iter, ifs, 0⟩ :: rest) scope vpos) scope ce (firstIterPos (⟨t, iter, ifs, 0⟩ :: rest) vpos) (newList []) false (eval iter ce) (some (assign (.Name x px) ce))) _ _ _
  refine wpAny_bind (core (some (assign (.Name x px) ce)) _ _ fun ρ1 s1 c cenv l1 o1 R1 ec en li hns hne cellsOf vars hkf hv => ?_)
  obtain ⟨m1, hm1⟩ := hns
  show wpAny _ A (do rule "comprehension.stores-exchanged"; holding (cellsOf vars) (assign (.Name x px) ce (.ref c)); comprehension.letGo cenv cellsOf (vars.reverse.drop 1 ++ vars.reverse.take 1); pure Value.none) _ _ s1
  -- the store, on the store without the scope's end
  unfold storeA at e2
  rw [hk] at e2
  dsimp only at e2
  rw [St.at_set, if_neg (Ne.symm hne)] at e2
  split at e2
  · rename_i m hm
    cases e2
    have e3 : storeA env x (.ref acc) σ2 = some (σ2.set env.ns (.ns (put m x (.ref acc)))) := by
      unfold storeA
      rw [hk]
      dsimp only
      rw [hm]
    refine wpAny_bind (wpAny_rule ?_)
    refine wpAny_bind (wpAny_holding (wpAny_assign_Name (store_snd R1 (RE.mono l1) e3 ⟨c, ec, rfl⟩ fun s2 o2 R2 => ?_)))
    have hm2 : (σ2.set env.ns (.ns (put m x (.ref acc)))).at nsi = some (.ns m1) := by
      rw [St.at_set, if_neg hne]; exact hm1
    obtain ⟨fm, hn, _⟩ := R2.ns hm2 en
    refine wpAny_bind (wpAny_comp_letGo hkf _ s2 fm (fun y hy hl => hv y ?_ hl) hn fun h' m' _ hs' => wpAny_pure (wpAny_pure (wpAny_pure ?_)))
    · rcases List.mem_append.mp hy with z | z
      · exact List.mem_reverse.mp (List.mem_of_mem_drop z)
      · exact List.mem_reverse.mp (List.mem_of_mem_take z)
    · refine h ρ1 _ l1 (o1.trans (o2.trans (.heap _ _))) (Rep.congr (R2.kill ⟨_, hm2, trivial⟩ en fun b o hb e => hs'.extBut b o hb e) (fun i => ?_) rfl)
      rw [St.at_set, St.at_set, St.at_set, St.at_set]
      by_cases q1 : i = env.ns
      · rw [if_pos q1, if_neg (by omega), if_pos q1]
      · rw [if_neg q1, if_neg q1]
  · cases e2

/-- stores exchanged -/
theorem swapped_snd (IH : Snd prog w fa base O) {x y : Str} {px py tp vp pos : Pos} {k1 k2 : Nat} {v1 v2 : Expr} {i : Nat} {a b : AV} {σ1 σ2 σ' : St} {Q : Flow → Shared → Prop} (hr : Room A k) (R : Rep fa base ρ σ s.heap) (RE : REnv ρ env ce)
    (hx : lk env.scope.names x = some .local) (hy : lk env.scope.names y = some .local) (hne : sB x y = false) (hl : px.line = py.line)
    (hc : (constantsAlone 8 v1 && constantsAlone 8 v2) = false) (hf : (foldedForSure 8 v1 && foldedForSure 8 v2) = false) (hs : (notStar v1 && notStar v2) = true)
    (h1 : O.ev k (.Tuple [v1, v2] k2 vp) env σ = some (.ref i, σ1)) (hm : σ1.at i = some (.tup [a, b])) (e1 : storeA env y b σ1 = some σ2) (e2 : storeA env x a σ2 = some σ')
    (h : ∀ ρ' s', ρ.Le ρ' → Ok s s' → Rep fa base ρ' σ' s'.heap → Q .next s') : wpAny (model prog w) A (exec (.Assign [.Tuple [.Name x px, .Name y py] k1 tp] (.Tuple [v1, v2] k2 vp) pos) ce) Q E s := by
  rw [exec_Assign_arm]
  refine wpAny_bind (wpAny_standAt ?_)
  rw [show swapsWithSole [.Tuple [.Name x px, .Name y py] k1 tp] (.Tuple [v1, v2] k2 vp) pos.line ce = pure false from rfl]
  refine wpAny_bind (wpAny_pure ?_)
  rw [if_neg (by decide)]
  refine wpAny_bind (IH.ev h1 hr R RE fun ρ1 v' s1 l1 o1 R1 rv => ?_)
  rw [swapped_eq RE hx hy hne hl hc hf hs]
  refine wpAny_bind (wpAny_pure ?_)
  obtain ⟨a1, ea, rfl⟩ := rv
  obtain ⟨ob, g, vs, n, rfl, rr⟩ := R1.getAt hm ea
  have hsz : vs.toList.length = 2 := rr.length
  generalize hq : vs.toList = L at rr
  cases rr with
  | cons rva rr =>
    cases rr with
    | cons rvb rr =>
      cases rr
      rename_i va vb
      show wpAny _ A (do
        rule "assign.swapped-stores"
        let items ← unpackItems (.ref a1) 2 none
        assignInOrder [bindName ce y, bindName ce x] items.reverse
        pure Flow.next) _ _ s1
      refine wpAny_bind (wpAny_rule (wpAny_bind ?_))
      have hsz' : 2 = vs.size := by rw [← Array.length_toList, hsz]
      rw [hsz']
      refine wpAny_unpackItems_tuple hr.1 (isTup g) fun h' he' => ?_
      rw [hq]
      show wpAny _ A (do (do holding [va] (bindName ce y vb); (do holding [] (bindName ce x va); pure ())); pure Flow.next) _ _ _
      have R2 : Rep fa base ρ1 σ1 h' := R1.grow fun b o e => he' b o (Nat.ne_of_lt (Heap.lt_size e)) e
      refine wpAny_bind (wpAny_bind (wpAny_holding (wpAny_bindName (store_snd (s := { s1 with heap := h' }) R2 (RE.mono l1) e1 rvb fun s2 o2 R3 => ?_))))
      refine wpAny_bind (wpAny_holding (wpAny_bindName (store_snd R3 (RE.mono l1) e2 rva fun s3 o3 R4 => ?_)))
      exact wpAny_pure (wpAny_pure (h ρ1 s3 l1 (o1.trans (Ok.trans (.heap _ _) (o2.trans o3))) R4))

theorem ex_snd (SB : StatB prog w fa T base) (IH : Snd prog w fa base O) {st : Stmt} {f : AFlow} {σ' : St} {Q : Flow → Shared → Prop} (e : stepEx T O k st env σ = some (f, σ')) (hr : Room A k) (R : Rep fa base ρ σ s.heap) (RE : REnv ρ env ce)
    (h : ∀ ρ' s' f', ρ.Le ρ' → Ok s s' → Rep fa base ρ' σ' s'.heap → FlowOk fa ρ' f f' → Q f' s') : wpAny (model prog w) A (exec st ce) Q E s := by
  unfold stepEx at e
  split at e
  · -- Expr
    split at e
    · split at e
      · rename_i σ1 h1
        cases e
        refine wpAny_Expr (IH.ev h1 hr R RE fun ρ1 v' s1 l1 o1 R1 rv => ?_) (no_interactive RE) rfl
        cases rv
        exact h ρ1 s1 .next l1 o1 R1 rfl
      · cases e
    · cases e
  · -- Assign
    split at e
    · split at e
      · -- Name
        rename_i value pos _ _ x px
        split at e
        · rename_i v σ1 hsd h1
          split at e
          · rename_i σ2 h2
            cases e
            split at h1
            · rename_i hu
              exact used_snd IH hr R RE hu h1 h2 fun ρ' s' l o R' => h ρ' s' .next l o R' rfl
            · rename_i hu
              have hs : swapsWith value (some (.Name x px)) pos.line ce = pure false := by
                rcases used_swaps (pos := pos) RE (value := value) (x := x) (px := px) with z | z
                · rw [z, hu]
                · exact notComp_swaps z
                    (fun a b c d q => by subst q; cases hsd)
                    (fun a b c d e q => by subst q; cases hsd)
              refine wpAny_Assign_Name (IH.ev h1 hr R RE fun ρ1 v' s1 l1 o1 R1 rv => ?_) hs
              exact store_snd R1 (RE.mono l1) h2 rv fun s2 o2 R2 => h ρ1 s2 .next l1 (o1.trans o2) R2 rfl
          · cases e
        · cases e
      · -- Tuple
        rename_i value pos es kt tp
        split at e
        · rename_i x px y py vs kv vp
          split at e
          · rename_i v1 v2
            split at e
            · rename_i hx hy hne hl hc hf hs
              split at e
              · rename_i i σ1 h1
                split at e
                · rename_i a b hm
                  split at e
                  · rename_i σ2 h2
                    split at e
                    · rename_i σ3 h3
                      cases e
                      exact swapped_snd IH hr R RE hx hy hne (Nat.eq_of_beq_eq_true hl) hc hf hs h1 hm h2 h3 fun ρ' s' l o R' => h ρ' s' .next l o R' rfl
                    · cases e
                  · cases e
                · cases e
              · cases e
            · cases e
          · cases e
        · cases e
      · cases e
    · cases e
  · -- AugAssign
    split at e
    · split at e
      · rename_i i j σ1 h1 h2
        split at e
        · split at e
          · rename_i σ2 h3
            cases e
            refine wpAny_AugAssign_Name (load_snd (SB s.heap R.keep) R RE h1 fun ρ1 v' s1 l1 o1 R1 rv => IH.ev h2 hr R1 (RE.mono l1) fun ρ2 u' s2 l2 o2 R2 ru => ?_)
            obtain ⟨t, rfl⟩ := rv
            obtain ⟨u, rfl⟩ := ru
            refine P.iadd_int (store_snd (s := { s2 with toks := s2.toks + 1 }) R2 (RE.mono (l1.trans l2)) h3 ⟨_, rfl⟩ fun s3 o3 R3 => ?_)
            exact h ρ2 s3 .next (l1.trans l2) (o1.trans (o2.trans (Ok.trans (.tok _ _) o3))) R3 rfl
          · cases e
        · split at e
          · rename_i σ2 h3
            cases e
            refine wpAny_AugAssign_Name (load_snd (SB s.heap R.keep) R RE h1 fun ρ1 v' s1 l1 o1 R1 rv => IH.ev h2 hr R1 (RE.mono l1) fun ρ2 u' s2 l2 o2 R2 ru => ?_)
            obtain ⟨t, rfl⟩ := rv
            obtain ⟨u, rfl⟩ := ru
            refine P.isub_int (store_snd (s := { s2 with toks := s2.toks + 1 }) R2 (RE.mono (l1.trans l2)) h3 ⟨_, rfl⟩ fun s3 o3 R3 => ?_)
            exact h ρ2 s3 .next (l1.trans l2) (o1.trans (o2.trans (Ok.trans (.tok _ _) o3))) R3 rfl
          · cases e
        · cases e
      · cases e
    · cases e
  · -- If
    split at e
    · rename_i σ1 h1
      refine wpAny_If (IH.tr h1 hr R RE fun ρ1 s1 l1 o1 R1 => ?_)
      rw [if_pos rfl]
      exact IH.exs e hr R1 (RE.mono l1) fun ρ' s' f' l' o' Rx hx => h ρ' s' f' (l1.trans l') (o1.trans o') Rx hx
    · rename_i σ1 h1
      refine wpAny_If (IH.tr h1 hr R RE fun ρ1 s1 l1 o1 R1 => ?_)
      rw [if_neg (by decide)]
      exact IH.exs e hr R1 (RE.mono l1) fun ρ' s' f' l' o' Rx hx => h ρ' s' f' (l1.trans l') (o1.trans o') Rx hx
    · cases e
  · -- While
    split at e
    · exact wpAny_While (IH.whl e hr R RE h)
    · cases e
  · -- For
    split at e
    · rename_i hn
      split at e
      · rename_i x σ1 h1
        split at e
        · rename_i i σ2 h2
          refine wpAny_For (IH.ev h1 hr R RE fun ρ1 v' s1 l1 o1 R1 rv => ?_) (set_pure hn)
          refine iter_snd R1 h2 rv fun ρ2 s2 a l2 o2 R2 ea => ?_
          exact IH.forL e hr R2 (RE.mono (l1.trans l2)) ea fun ρ' s' f' l' o' Rx hx => h ρ' s' f' (l1.trans (l2.trans l')) (o1.trans (o2.trans o')) Rx hx
        · cases e
      · cases e
    · cases e
  · -- Return
    split at e
    · split at e
      · rename_i v σ1 h1
        cases e
        exact wpAny_Return_some (IH.ev h1 hr R RE fun ρ1 v' s1 l1 o1 R1 rv => h ρ1 s1 _ l1 o1 R1 ⟨v', rfl, rv⟩)
      · cases e
    · cases e
  · cases e

theorem exs_snd (IH : Snd prog w fa base O) {l : List Stmt} {f : AFlow} {σ' : St} {Q : Flow → Shared → Prop} (e : stepExs O k l env σ = some (f, σ')) (hr : Room A k) (R : Rep fa base ρ σ s.heap) (RE : REnv ρ env ce)
    (h : ∀ ρ' s' f', ρ.Le ρ' → Ok s s' → Rep fa base ρ' σ' s'.heap → FlowOk fa ρ' f f' → Q f' s') : wpAny (model prog w) A (execs l ce) Q E s := by
  unfold stepExs at e
  split at e
  · cases e
    exact wpAny_execs_nil (h ρ s .next (.refl _) (.refl _) R rfl)
  · split at e
    · rename_i σ1 h1
      refine wpAny_execs_cons (IH.ex h1 hr R RE fun ρ1 s1 f1 l1 o1 R1 hf => ?_)
      cases hf
      exact IH.exs e hr R1 (RE.mono l1) fun ρ' s' f' l' o' Rx hx => h ρ' s' f' (l1.trans l') (o1.trans o') Rx hx
    · rename_i hne
      refine wpAny_execs_cons (IH.ex e hr R RE fun ρ1 s1 f1 l1 o1 R1 hf => ?_)
      have := h ρ1 s1 f1 l1 o1 R1 hf
      cases f with
      | next => exact absurd e (hne _)
      | brk => cases hf; exact this
      | cont => cases hf; exact this
      | ret v => obtain ⟨v', rfl, r⟩ := hf; exact this
end
end Mine
end

noncomputable section
set_option autoImplicit false
namespace Mine
open PySem
open PyProof.Rows (AllBare StrsAre sortedS risingS sorted_strs sortedAll sortedAll_old sortedAll_at)

/-! the sort of strings, plainly -/
theorem str_ext {x y : Str} (h : x.cps.toList = y.cps.toList) : x = y := by
  cases x; cases y
  congr
  exact Array.ext' h
def leS (a b : Str) : Prop := ¬ b.cps.toList < a.cps.toList
theorem leS.trans {a b c : Str} (h1 : leS a b) (h2 : leS b c) : leS a c := List.le_trans (show a.cps.toList ≤ b.cps.toList from h1) (show b.cps.toList ≤ c.cps.toList from h2)
theorem leS.antisymm {a b : Str} (h1 : leS a b) (h2 : leS b a) : a = b := str_ext (List.le_antisymm (show a.cps.toList ≤ b.cps.toList from h1) (show b.cps.toList ≤ a.cps.toList from h2))
theorem leS.total (a b : Str) (h : b.cps.toList < a.cps.toList) : leS b a := fun h' => List.lt_irrefl _ (List.lt_trans h h')
theorem risingS_pair : ∀ (l : List Str) (p : Str), risingS p l = true → (p :: l).Pairwise leS
  | [], p, _ => List.pairwise_singleton _ _
  | x :: r, p, h => by
    have h' : (!Spec.ltCps x.cps.toList p.cps.toList && risingS x r) = true := h
    rw [Bool.and_eq_true] at h'
    have h1 : leS p x := by
      have := h'.1
      rw [PyProof.Rows.ltCps_eq] at this
      simpa [leS] using this
    have ih := risingS_pair r x h'.2
    refine List.pairwise_cons.mpr ⟨fun y hy => ?_, ih⟩
    rcases List.mem_cons.mp hy with rfl | hy
    · exact h1
    · exact h1.trans ((List.pairwise_cons.mp ih).1 y hy)
theorem sortedS_pair {l : List Str} (h : sortedS l = true) : l.Pairwise leS := by
  cases l with
  | nil => exact .nil
  | cons x r => exact risingS_pair r x h
theorem insS_perm (x : Str) : ∀ l, (insS x l).Perm (x :: l)
  | [] => .refl _
  | y :: r => by
    unfold insS
    split
    · exact ((insS_perm x r).cons y).trans (.swap ..)
    · exact .refl _
theorem insS_pair (x : Str) : ∀ {l : List Str}, l.Pairwise leS → (insS x l).Pairwise leS
  | [], _ => List.pairwise_singleton _ _
  | y :: r, h => by
    unfold insS
    obtain ⟨h1, h2⟩ := List.pairwise_cons.mp h
    split
    · rename_i hl
      rw [ltL_iff] at hl
      have hl' : y.cps.toList < x.cps.toList := by simpa using hl
      refine List.pairwise_cons.mpr ⟨fun z hz => ?_, insS_pair x h2⟩
      rcases List.mem_cons.mp ((insS_perm x r).mem_iff.mp hz) with rfl | hz
      · exact leS.total _ _ hl'
      · exact h1 z hz
    · rename_i hl
      rw [ltL_iff] at hl
      have hl' : leS x y := by simpa [leS] using hl
      refine List.pairwise_cons.mpr ⟨fun z hz => ?_, h⟩
      rcases List.mem_cons.mp hz with rfl | hz
      · exact hl'
      · exact hl'.trans (h1 z hz)
theorem sortS_perm : ∀ l, (sortS l).Perm l
  | [] => .refl _
  | x :: r => (insS_perm x (sortS r)).trans ((sortS_perm r).cons x)
theorem sortS_pair : ∀ l, (sortS l).Pairwise leS
  | [] => .nil
  | x :: r => insS_pair x (sortS_pair r)
theorem sortS_only {l l' : List Str} (hp : l'.Perm l) (hs : sortedS l' = true) : l' = sortS l :=
  List.Perm.eq_of_pairwise (fun _ _ _ _ a b => leS.antisymm a b) (sortedS_pair hs) (sortS_pair l) (hp.trans (sortS_perm l).symm)

section
variable {prog : Program} {w : World} {fa : Nat → Addr} {T : Tab} {base : Addr → Option Obj} {A : Around} {E : Value → Shared → Prop} {s : Shared} {ρ : Map} {σ : St} {env : AEnv} {ce : Env} {k : Nat} {O : Ops}

theorem upToZ_items : ∀ (n : Nat) (a : Int) (vs : List Value), vs.length = n → (∀ (j : Nat) v, vs[j]? = some v → ∃ t, v = Value.int (a + j) t) → RVs fa ρ (upToZ a n) vs
  | 0, a, vs, hl, _ => by
    obtain rfl := List.length_eq_zero_iff.mp hl
    exact .nil
  | n + 1, a, vs, hl, h => by
    cases vs with
    | nil => cases hl
    | cons v vs =>
      obtain ⟨t, ht⟩ := h 0 v rfl
      refine .cons ⟨t, by rw [ht]; simp⟩ (upToZ_items n (a + 1) vs (by simpa using hl) fun j u hu => ?_)
      obtain ⟨t', ht'⟩ := h (j + 1) u (by simpa using hu)
      exact ⟨t', by rw [ht']; congr 1; push_cast; omega⟩

theorem bind_snd {Q : Env → Shared → Prop} {bs : List (Str × AV)} {bvs : List (Str × Value)} (rb : RB fa ρ bs bvs) : ∀ {σ σ' : St} {s : Shared}, bindAll env bs σ = some σ' → Rep fa base ρ σ s.heap → REnv ρ env ce →
    (∀ s', Ok s s' → Rep fa base ρ σ' s'.heap → Q ce s') → wpAny (model prog w) A (do for (name, v) in bvs do storeName ce name v
                                                                                       return ce) Q E s := by
  induction rb with
  | nil =>
    intro σ σ' s e R RE h
    cases e
    exact wpAny_bind (wpAny_pure (wpAny_pure (h s (.refl _) R)))
  | @cons x a v r r' rv rr ih =>
    intro σ σ' s e R RE h
    have e' : (match storeA env x a σ with | some σ => bindAll env r σ | none => none) = some σ' := e
    split at e'
    · rename_i σ1 h1
      have ih' := fun (s' : Shared) (o' : Ok s s') (R' : Rep fa base ρ σ1 s'.heap) => ih e' R' RE fun s'' o'' R'' => h s'' (o'.trans o'') R''
      rw [show (do for (name, v) in (x, v) :: r' do storeName ce name v
                   return ce : Sem Env) = (do storeName ce x v; for (name, v) in r' do storeName ce name v
                                                                return ce) from by simp [List.forIn_cons]]
      exact wpAny_bind (store_snd R RE h1 rv fun s' o' R' => ih' s' o' R')
    · cases e'

theorem Room.deeper (h : Room A (k + 1)) (ce : Env) : Room (A.deeper ce) k := by
  obtain ⟨h1, h2, h3⟩ := h
  exact ⟨h1, by show A.depth + 1 + k < 900; omega, by show A.units + 3 + 4 * k < 9000; omega⟩

/-- what the known calls give -/
def resA (r : XA) (σ : St) : AV × St := match r with
  | .int z => (.int z, σ)
  | .str x => (.str x, σ)
  | .bool b => (.bool b, σ)
  | .ints ns => alloc (.list (ns.map .int)) σ
def XOk (prog : Program) (w : World) (fa : Nat → Addr) (T : Tab) (base : Addr → Option Obj) : Prop :=
  ∀ i as r, T.ext i as = some r → ∀ {k A E s ρ σ args args' Q}, 60 ≤ k → Room A k → Rep fa base ρ σ s.heap → RVs fa ρ args args' → rdX σ args = some as →
    PV fa base ρ (resA r σ).2 (resA r σ).1 s Q → wpAny (model prog w) A (call (.ref (fa i)) args') Q E s

theorem RB.mono {ρ ρ' : Map} (l : ρ.Le ρ') {bs : List (Str × AV)} {bvs : List (Str × Value)} (h : RB fa ρ bs bvs) : RB fa ρ' bs bvs := by
  induction h with
  | nil => exact .nil
  | cons a _ ih => exact .cons (a.mono l) ih
theorem user_snd (SB : StatB prog w fa T base) (IH : Snd prog w fa base O) {i : Nat} {fi : FnInfo} {bs : List (Str × AV)} {args : List AV} {args' : List Value} {v : AV} {σ1 σ2 σ' : St} {fl : AFlow} {Q : Value → Shared → Prop}
    (hi : T.info i = some fi) (hb : bindA fi args = some bs) (hm : mkEnv fi.scope [] σ = (env, σ1)) (hba : bindAll env bs σ1 = some σ2) (hx : O.exs k fi.body env σ2 = some (fl, σ'))
    (hv : fl = .ret v ∨ (fl = .next ∧ v = .none)) (hr : Room A (k + 1)) (R : Rep fa base ρ σ s.heap) (ra : RVs fa ρ args args') (h : PV fa base ρ σ' v s Q) : wpAny (model prog w) A (call (.ref (fa i)) args') Q E s := by
  obtain ⟨o, fd, g, hd, hcr, hbody, hsc, hcl, hgl, hbu, hco, hgen, hkd, hbind⟩ := ((SB s.heap R.keep).fn i fi hi).ok
  obtain ⟨bvs, rb, hbind⟩ := hbind args bs hb ρ args' ra
  refine wpAny_call (codeAny_call_function (by unfold recursionLimit; have := hr.2.1; omega) g hd hco hgen hbody hcr ?_)
  refine hbind A.in1 _ _ s (fun _ _ z => z) ?_
  rw [hcl, hsc]
  refine newEnv_snd R .nil hm hgl hbu (by rw [← hsc]; exact hkd) fun ρ1 s1 ce1 l1 o1 R1 RE1 => ?_
  have rb1 : RB fa ρ1 bs bvs := rb.mono l1
  refine bind_snd rb1 hba R1 RE1 fun s2 o2 R2 => ⟨(SB s2.heap R2.keep).nolimit, ?_⟩
  refine codeAny_func (IH.exs hx (hr.deeper ce1) R2 RE1 fun ρ3 s3 f3 l3 o3 R3 hf => ?_)
  rcases hv with rfl | ⟨rfl, rfl⟩
  · obtain ⟨v', rfl, rv⟩ := hf
    exact h ρ3 v' s3 (l1.trans l3) (o1.trans (o2.trans o3)) R3 rv
  · cases hf
    exact h ρ3 .none s3 (l1.trans l3) (o1.trans (o2.trans o3)) R3 rfl

theorem Rep.new (R : Rep fa base ρ σ s.heap) {h' : Heap} {a : Addr} {o' : AO} {ob' : Obj} (na : s.heap.objs.size ≤ a) (g : h'.get? a = some ob') (ro : RO fa (addM ρ σ.n a) ob' o') (k : ∀ b o, s.heap.get? b = some o → h'.get? b = some o) : Rep fa base (addM ρ σ.n a) (σ.push o') h' :=
  R.push (by
    cases e : s.heap.get? a with
    | none => rfl
    | some o => exact absurd (Heap.lt_size e) (Nat.not_lt.mpr na)) g ro k

theorem call_snd (SB : StatB prog w fa T base) (XO : XOk prog w fa T base) (IH : Snd prog w fa base O) {f v : AV} {args : List AV} {f' : Value} {args' : List Value} {σ' : St} {Q : Value → Shared → Prop} (e : stepCall T O k f args σ = some (v, σ')) (hr : Room A k) (R : Rep fa base ρ σ s.heap) (rf : RV fa ρ f f') (ra : RVs fa ρ args args')
    (h : PV fa base ρ σ' v s Q) : wpAny (model prog w) A (call f' args') Q E s := by
  unfold stepCall at e
  split at e
  · -- len
    cases rf
    split at e
    · rename_i x
      split at e
      · rename_i hs
        cases e
        cases ra with
        | cons r1 rr =>
          cases rr
          obtain ⟨t, rfl⟩ := r1
          have := small_le hs
          refine P.len_str (by rw [str_len]; omega) ?_
          exact h ρ _ _ (.refl _) (.tok _ _) R ⟨_, by rw [str_len]; rfl⟩
      · cases e
    · rename_i i
      cases ra with
      | cons r1 rr =>
        cases rr
        obtain ⟨a1, ea, rfl⟩ := r1
        split at e
        · rename_i xs hx
          split at e
          · rename_i hs
            cases e
            obtain ⟨vs, n, g, r⟩ := R.list hx ea
            have := small_le hs
            have hl := r.length
            rw [Array.length_toList] at hl
            refine Calls.call_len_list (isList g) (by omega) ?_
            exact h ρ _ _ (.refl _) (.tok _ _) R ⟨_, by rw [hl]; rfl⟩
          · cases e
        · cases e
    · cases e
  · -- range
    cases rf
    split at e
    · rename_i b
      split at e
      · cases e
        cases ra with
        | cons r1 rr =>
          cases rr
          obtain ⟨t, rfl⟩ := r1
          exact call_range_1 (h _ _ _ (R.le_add _) (.toks _ _ _) (R.pushed _ (o' := .range 0 b) ⟨_, _, _, rfl⟩) ⟨_, addM_self .., rfl⟩)
      · cases e
    · rename_i a b
      split at e
      · cases e
        cases ra with
        | cons r1 rr =>
          cases rr with
          | cons r2 rr =>
            cases rr
            obtain ⟨t, rfl⟩ := r1
            obtain ⟨u, rfl⟩ := r2
            exact call_range_2 (h _ _ _ (R.le_add _) (.toks _ _ _) (R.pushed _ (o' := .range a b) ⟨_, _, _, rfl⟩) ⟨_, addM_self .., rfl⟩)
      · cases e
    · cases e
  · -- list
    cases rf
    split at e
    · rename_i i
      cases ra with
      | cons r1 rr =>
        cases rr
        obtain ⟨a1, ea, rfl⟩ := r1
        split at e
        · rename_i a b hx
          split at e
          · rename_i hs ha hb
            cases e
            obtain ⟨ob, g, t, u, v, rfl⟩ := R.getAt hx ea
            have hsm := small_le hs
            have hsz : Builtin.Range.rangeSize a b 1 = ((b - a).toNat : Int) := by
              rw [rangeSize_one]
              split <;> omega
            refine call_list_range hr.1 g (range_small ha hb) hsz (by omega) fun h' tk acc c hk hg hit => ?_
            refine h _ _ _ (R.le_add _) (.toks _ _ _) (R.new (o' := .list (upToZ a (b - a).toNat)) (Nat.le_refl _) hg ⟨_, _, rfl, upToZ_items _ _ _ (by rw [Array.length_toList]; exact hit.1) fun j v hv => ?_⟩ hk) ⟨_, addM_self .., rfl⟩
            obtain ⟨t, ht⟩ := hit.2 j v (by rw [Array.getElem?_toList] at hv; exact hv)
            exact ⟨t, by rw [ht, Int.mul_one]⟩
          · cases e
        · cases e
    · cases e
  · -- sorted
    cases rf
    split at e
    · rename_i i
      cases ra with
      | cons r1 rr =>
        cases rr
        obtain ⟨a1, ea, rfl⟩ := r1
        split at e
        · rename_i xs hx
          split at e
          · rename_i ys hy
            split at e
            · rename_i hs
              cases e
              obtain ⟨vs, n, g, r⟩ := R.list hx ea
              obtain rfl := toStrs_eq hy
              have hS := RVs.strs r
              have hl := r.length
              have h60 := Nat.le_of_ble_eq_true hs
              rw [List.length_map] at hl
              refine sorted_strs (vs := vs.toList) (isList g) hS (by omega) fun out ss' a1 a2 a3 => ?_
              obtain ⟨en, he⟩ := sortedAll_at s.heap vs.toList out
              obtain rfl := sortS_only a2 a3
              exact h _ _ _ (R.le_add _) (.heap _ _) (R.new (o' := .list ((sortS ys).map .str)) (Nat.le_succ _) he ⟨_, _, rfl, RVs.of_strs a1⟩ (fun _ _ => sortedAll_old)) ⟨_, addM_self .., rfl⟩
            · cases e
          · cases e
        · cases e
    · cases e
  · -- user
    rename_i i
    cases rf
    split at e
    · rename_i r hr1
      split at hr1
      · rename_i as h12 has
        have h12' := Nat.le_of_ble_eq_true h12
        refine XO i as r hr1 h12' hr R ra has ?_
        cases r <;> (cases e; exact h)
      · cases hr1
    · split at e
      · rename_i k1 fi hi _
        split at e
        · rename_i bs hb
          split at e
          rename_i env1 σ1 hm
          split at e
          · rename_i σ2 hba
            split at e
            · rename_i v1 σ3 hx
              cases e
              exact user_snd SB IH hi hb hm hba hx (.inl rfl) hr R ra h
            · rename_i σ3 hx
              cases e
              exact user_snd SB IH hi hb hm hba hx (.inr ⟨rfl, rfl⟩) hr R ra h
            · cases e
          · cases e
        · cases e
      · cases e
  · cases e

end
end Mine
end

noncomputable section
set_option autoImplicit false
namespace Mine
open PySem
open PyProof.Rows (AllBare)

section
variable {prog : Program} {w : World} {fa : Nat → Addr} {T : Tab} {base : Addr → Option Obj} {O : Ops}

theorem step_snd (SB : StatB prog w fa T base) (XO : XOk prog w fa T base) (IH : Snd prog w fa base O) : Snd prog w fa base (step T O) where
  ev := fun e _ _ _ _ _ _ hr R RE h => ev_snd SB IH (fun e' _ _ _ _ _ _ hr' R' RE' h' => compE_snd IH e' hr' R' RE' h') e hr R RE h
  tr := fun e _ _ _ _ _ _ hr R RE h => tr_snd IH e hr R RE h
  ex := fun e _ _ _ _ _ _ hr R RE h => ex_snd SB IH e hr R RE h
  exs := fun e _ _ _ _ _ _ hr R RE h => exs_snd IH e hr R RE h
  forL := fun e _ _ _ _ _ _ hr R RE ea h => for_snd IH e hr R RE ea h
  whl := fun e _ _ _ _ _ hr R RE h => whl_snd IH e hr R RE h
  comp := fun e _ _ _ _ _ _ _ hr R RE ea ec h => comp_snd IH e hr R RE ea ec h
  call := fun e _ _ _ _ _ _ _ hr R rf ra h => call_snd SB XO IH e hr R rf ra h
theorem run_snd (SB : StatB prog w fa T base) (XO : XOk prog w fa T base) : ∀ n, Snd prog w fa base (run T n)
  | 0 => bot_snd
  | n + 1 => step_snd SB XO (run_snd SB XO n)
end
end Mine
end

noncomputable section
set_option autoImplicit false
namespace Mine
open PySem

/-! the program's functions by place, and the known calls -/
def PP := PySem.Challenge.pw_hn0003_01
def glL : List (Str × Fn) := [("len", .len), ("sorted", .sorted), ("range", .range), ("list", .list),
  ("enumerate", .enum), ("_iter_escaped_chars", .user 1), ("_strip_quoted_realnames", .user 2), ("_check_parenthesis", .user 3), ("insort_left", .user 5), ("bisect_left", .user 6), ("_law_told", .user 8), ("_law_back", .user 9), ("_law_orders", .user 10), ("_law_begun", .user 11), ("_law_all", .user 12)]
def gl (x : Str) : Option Fn := lk glL x
def infL : List (Nat × List AV × List (Str × AV)) := [(2, [], []), (3, [], []), (5, [.int 0, .none], [("key", .none)]), (6, [.int 0, .none], [("key", .none)]), (8, [], []), (9, [], []), (10, [], []), (11, [], []), (12, [], [])]
def infOf : List (Nat × List AV × List (Str × AV)) → Nat → Option FnInfo
  | [], _ => none
  | e :: r, i => match Nat.beq e.1 i with
    | true => defAt PP i e.2.1 e.2.2
    | false => infOf r i
def inf (i : Nat) : Option FnInfo := infOf infL i
def xB : XA → XA → Bool
  | .int i, .int j => decide (i = j)
  | .str x, .str y => sB x y
  | .bool x, .bool y => x == y
  | .ints x, .ints y => decide (x = y)
  | _, _ => false
def xsB : List XA → List XA → Bool
  | [], [] => true
  | x :: r, y :: t => xB x y && xsB r t
  | _, _ => false
abbrev Known := Nat × List XA × XA
def extL : List Known → Nat → List XA → Option XA
  | [], _, _ => none
  | e :: r, i, as => match Nat.beq e.1 i && xsB e.2.1 as with
    | true => some e.2.2
    | false => extL r i as
def T0 : Tab := ⟨gl, inf, fun _ _ => none⟩
def tabTold : List Known := [
  (8, [.ints [0], .int 0], .str "()"),
  (8, [.ints [0, 0], .int 0], .str "(())"),
  (8, [.ints [0, 0, 0], .int 0], .str "(()())"),
  (8, [.ints [0, 0, 1], .int 0], .str "((()))"),
  (8, [.ints [0, 0, 0, 0], .int 0], .str "(()()())"),
  (8, [.ints [0, 0, 0, 1], .int 0], .str "((())())"),
  (8, [.ints [0, 0, 0, 2], .int 0], .str "((())())"),
  (8, [.ints [0, 0, 1, 0], .int 0], .str "((())())"),
  (8, [.ints [0, 0, 1, 1], .int 0], .str "((()()))"),
  (8, [.ints [0, 0, 1, 2], .int 0], .str "(((())))")]
def tabBegun : List Known := [
  (11, [.ints [0], .int 0], .ints [0]),
  (11, [.ints [0, 0], .int 0], .ints [0, 0]),
  (11, [.ints [0, 0], .int 1], .ints [0, 0]),
  (11, [.ints [0, 0, 0], .int 0], .ints [0, 0, 0]),
  (11, [.ints [0, 0, 0], .int 1], .ints [0, 0, 1]),
  (11, [.ints [0, 0, 0], .int 2], .ints [0, 0, 1]),
  (11, [.ints [0, 0, 1], .int 0], .ints [0, 0, 1]),
  (11, [.ints [0, 0, 1], .int 1], .ints [0, 0, 0]),
  (11, [.ints [0, 0, 1], .int 2], .ints [0, 0, 1]),
  (11, [.ints [0, 0, 0, 0], .int 0], .ints [0, 0, 0, 0]),
  (11, [.ints [0, 0, 0, 0], .int 1], .ints [0, 0, 1, 1]),
  (11, [.ints [0, 0, 0, 0], .int 2], .ints [0, 0, 1, 1]),
  (11, [.ints [0, 0, 0, 0], .int 3], .ints [0, 0, 1, 1]),
  (11, [.ints [0, 0, 0, 1], .int 0], .ints [0, 0, 0, 1]),
  (11, [.ints [0, 0, 0, 1], .int 1], .ints [0, 0, 0, 2]),
  (11, [.ints [0, 0, 0, 1], .int 2], .ints [0, 0, 1, 2]),
  (11, [.ints [0, 0, 0, 1], .int 3], .ints [0, 0, 1, 2]),
  (11, [.ints [0, 0, 0, 2], .int 0], .ints [0, 0, 0, 2]),
  (11, [.ints [0, 0, 0, 2], .int 1], .ints [0, 0, 1, 2]),
  (11, [.ints [0, 0, 0, 2], .int 2], .ints [0, 0, 0, 2]),
  (11, [.ints [0, 0, 0, 2], .int 3], .ints [0, 0, 1, 2]),
  (11, [.ints [0, 0, 1, 0], .int 0], .ints [0, 0, 0, 1]),
  (11, [.ints [0, 0, 1, 0], .int 1], .ints [0, 0, 0, 2]),
  (11, [.ints [0, 0, 1, 0], .int 2], .ints [0, 0, 1, 2]),
  (11, [.ints [0, 0, 1, 0], .int 3], .ints [0, 0, 1, 2]),
  (11, [.ints [0, 0, 1, 1], .int 0], .ints [0, 0, 1, 1]),
  (11, [.ints [0, 0, 1, 1], .int 1], .ints [0, 0, 0, 0]),
  (11, [.ints [0, 0, 1, 1], .int 2], .ints [0, 0, 1, 1]),
  (11, [.ints [0, 0, 1, 1], .int 3], .ints [0, 0, 1, 1]),
  (11, [.ints [0, 0, 1, 2], .int 0], .ints [0, 0, 1, 2]),
  (11, [.ints [0, 0, 1, 2], .int 1], .ints [0, 0, 0, 1]),
  (11, [.ints [0, 0, 1, 2], .int 2], .ints [0, 0, 0, 2]),
  (11, [.ints [0, 0, 1, 2], .int 3], .ints [0, 0, 1, 2])]
def tabBack : List Known := [
  (9, [.str "()"], .ints [0]),
  (9, [.str "(())"], .ints [0, 0]),
  (9, [.str "(()())"], .ints [0, 0, 0]),
  (9, [.str "((()))"], .ints [0, 0, 1]),
  (9, [.str "(()()())"], .ints [0, 0, 0, 0]),
  (9, [.str "((())())"], .ints [0, 0, 1, 0]),
  (9, [.str "((()()))"], .ints [0, 0, 1, 1]),
  (9, [.str "(((())))"], .ints [0, 0, 1, 2])]
def tabCheck : List Known := [
  (3, [.str "()"], .bool true),
  (3, [.str "(())"], .bool true),
  (3, [.str "(()())"], .bool true),
  (3, [.str "((()))"], .bool true),
  (3, [.str "(()()())"], .bool true),
  (3, [.str "((())())"], .bool true),
  (3, [.str "((()()))"], .bool true),
  (3, [.str "(((())))"], .bool true)]
def tab : List Known := tabTold ++ tabBegun ++ tabBack ++ tabCheck
def T1 : Tab := ⟨gl, inf, extL tab⟩
def fi13 : Option FnInfo := defAt PP 13 [] []
end Mine
end

noncomputable section
set_option autoImplicit false
namespace Mine
open PySem
open PyProof.Rows (AllBare StrsAre IntsAre)

section
variable {prog : Program} {w : World} {fa : Nat → Addr} {T : Tab} {base : Addr → Option Obj} {A : Around} {E : Value → Shared → Prop} {s : Shared} {ρ : Map} {σ : St} {env : AEnv} {ce : Env} {k : Nat} {O : Ops}

theorem Stat.ext {h : Heap} (S : Stat prog w fa T h) (x : Nat → List XA → Option XA) : Stat prog w fa { T with ext := x } h := ⟨S.glob, S.nolimit, S.fn⟩
theorem StatB.ext (S : StatB prog w fa T base) (x : Nat → List XA → Option XA) : StatB prog w fa { T with ext := x } base := fun h k => (S h k).ext x
theorem StatB.over (S : StatB prog w fa T base) {base' : Addr → Option Obj} (k : ∀ b o, base b = some o → base' b = some o) : StatB prog w fa T base' := fun h z => S h fun b o e => z b o (k b o e)

theorem xB_eq {a b : XA} (h : xB a b = true) : a = b := by
  cases a <;> cases b <;> first | (exact absurd h Bool.false_ne_true) | skip
  · exact congrArg _ (of_decide_eq_true h)
  · exact congrArg _ (sB_iff.mp h)
  · exact congrArg _ (eq_of_beq h)
  · exact congrArg _ (of_decide_eq_true h)
theorem xsB_eq : ∀ {a b : List XA}, xsB a b = true → a = b
  | [], [], _ => rfl
  | x :: r, y :: t, h => by
    have h' : (xB x y && xsB r t) = true := h
    rw [Bool.and_eq_true] at h'
    rw [xB_eq h'.1, xsB_eq h'.2]
  | [], _ :: _, h => absurd h Bool.false_ne_true
  | _ :: _, [], h => absurd h Bool.false_ne_true

theorem rdX_str {σ : St} {args : List AV} {x : Str} (hx : rdX σ args = some [.str x]) : args = [.str x] := by
  cases args with
  | nil => cases hx
  | cons a1 r1 =>
    unfold rdX at hx
    split at hx
    · cases hx
    · rename_i l1 h1
      split at hx
      · cases hx
      · cases hx
        cases r1 with
        | nil => rfl
        | cons a2 r2 =>
          unfold rdX at h1
          split at h1
          · cases h1
          · split at h1
            · cases h1
            · cases h1
            · split at h1
              · split at h1
                · cases h1
                · cases h1
              · cases h1
            · cases h1
      · split at hx
        · split at hx
          · cases hx
          · cases hx
        · cases hx
      · cases hx

/-- a known call is so -/
def KOk (prog : Program) (w : World) (fa : Nat → Addr) (base : Addr → Option Obj) (e : Known) : Prop :=
  ∀ {k A E s ρ σ args args' Q}, 60 ≤ k → Room A k → Rep fa base ρ σ s.heap → RVs fa ρ args args' → rdX σ args = some e.2.1 →
    PV fa base ρ (resA e.2.2 σ).2 (resA e.2.2 σ).1 s Q → wpAny (model prog w) A (call (.ref (fa e.1)) args') Q E s
theorem xok_of {l : List Known} (h : ∀ e ∈ l, KOk prog w fa base e) (g : Str → Option Fn) (nf : Nat → Option FnInfo) : XOk prog w fa ⟨g, nf, extL l⟩ base := by
  intro i as r hx0
  have hx : extL l i as = some r := hx0
  clear hx0
  induction l with
  | nil => cases hx
  | cons e l ih =>
    have hx' : (match Nat.beq e.1 i && xsB e.2.1 as with | true => some e.2.2 | false => extL l i as) = some r := hx
    split at hx'
    · rename_i hq
      rw [Bool.and_eq_true] at hq
      cases hx'
      obtain rfl := Nat.eq_of_beq_eq_true hq.1
      obtain rfl := xsB_eq hq.2
      intro k A E s ρ σ args args' Q a b c d e' f
      exact h e (.head _) a b c d e' f
    · intro k A E s ρ σ args args' Q a b c d e' f
      exact ih (fun e' he => h e' (.tail _ he)) hx' a b c d e' f

theorem Room.less {j : Nat} (h : Room A k) (l : j ≤ k) : Room A j := by
  obtain ⟨h1, h2, h3⟩ := h
  exact ⟨h1, by omega, by omega⟩

/-- what a run must show -/
def stillL (σ : St) (l : List Int) : Bool := match σ.at 0 with
  | some (.list xs) => match toInts xs with
    | some ns => decide (ns = l)
    | none => false
  | _ => false
def givesR (v : AV) (σ : St) (r : XA) : Bool := match r with
  | .int i => match v with | .int j => decide (j = i) | _ => false
  | .str x => match v with | .str y => sB y x | _ => false
  | .bool b => match v with | .bool c => c == b | _ => false
  | .ints l => match v with
    | .ref i => match i with
      | 0 => false
      | i + 1 => match σ.at (i + 1) with
        | some (.list xs) => match toInts xs with
          | some ns => decide (ns = l)
          | none => false
        | _ => false
    | _ => false
def okRunI (e : Nat × List XA × XA) : Bool := match e.2.1 with
  | [.ints l, .int p] => match (run T0 20000).call 12 (.fn (.user e.1)) [.ref 0, .int p] (St.nil.push (.list (l.map .int))) with
    | some (v, σ) => stillL σ l && givesR v σ e.2.2
    | none => false
  | _ => false
def okRunS (e : Nat × List XA × XA) : Bool := match e.2.1 with
  | [.str x] => match (run T0 20000).call 12 (.fn (.user e.1)) [.str x] (St.nil.push .junk) with
    | some (v, σ) => givesR v σ e.2.2
    | none => false
  | _ => false

theorem stillL_at {l : List Int} (h : stillL σ l = true) : σ.at 0 = some (.list (l.map .int)) := by
  unfold stillL at h
  split at h
  · rename_i xs hx
    split at h
    · rename_i ns hn
      obtain rfl := of_decide_eq_true h
      rw [hx, toInts_eq hn]
    · cases h
  · cases h
theorem gives_list {v : AV} {l : List Int} (h : givesR v σ (.ints l) = true) : ∃ i, i ≠ 0 ∧ v = .ref i ∧ σ.at i = some (.list (l.map .int)) := by
  unfold givesR at h
  dsimp only at h
  split at h
  · split at h
    · cases h
    · rename_i i
      split at h
      · rename_i xs hx
        split at h
        · rename_i ns hn
          obtain rfl := of_decide_eq_true h
          exact ⟨_, Nat.succ_ne_zero _, rfl, by rw [hx, toInts_eq hn]⟩
        · cases h
      · cases h
  · cases h
theorem gives_flat {v : AV} {r : XA} (h : givesR v σ r = true) (hr : ∀ l, r ≠ .ints l) (τ : St) : resA r τ = (v, τ) := by
  unfold givesR at h
  cases r with
  | int i =>
    dsimp only at h
    split at h
    · obtain rfl := of_decide_eq_true h; rfl
    · cases h
  | str x =>
    dsimp only at h
    split at h
    · obtain rfl := sB_iff.mp h; rfl
    · cases h
  | bool b =>
    dsimp only at h
    split at h
    · obtain rfl := eq_of_beq h; rfl
    · cases h
  | «ints» l => exact absurd rfl (hr l)
theorem flat_RV {v : AV} {r : XA} (h : givesR v σ r = true) (hr : ∀ l, r ≠ .ints l) {ρ ρ' : Map} {v' : Value} (x : RV fa ρ v v') : RV fa ρ' v v' := by
  have e := gives_flat h hr σ
  cases r with
  | int i => have e1 : AV.int i = v := congrArg Prod.fst e; subst e1; exact x
  | str i => have e1 : AV.str i = v := congrArg Prod.fst e; subst e1; exact x
  | bool i => have e1 : AV.bool i = v := congrArg Prod.fst e; subst e1; exact x
  | «ints» l => exact absurd rfl (hr l)

theorem noX (SB : StatB prog w fa T0 base) : ∀ n, Snd prog w fa base (run T0 n) := run_snd SB (fun i as r h => by cases h)

theorem kok_I (SB : StatB prog w fa T0 base) {e : Known} (he : okRunI e = true) : KOk prog w fa base e := by
  intro k A E s ρ σ args args' Q hk hr R ra hx h
  obtain ⟨f, xa, r⟩ := e
  unfold okRunI at he
  split at he
  · rename_i l p hl
    dsimp only at hl hx h ⊢
    subst hl
    split at he
    · rename_i v σ1 hrun
      rw [Bool.and_eq_true] at he
      obtain ⟨hs, hg⟩ := he
      -- the arguments
      have hargs : ∃ i xs, args = [.ref i, .int p] ∧ σ.at i = some (.list xs) ∧ toInts xs = some l := by
        cases args with
        | nil => cases hx
        | cons a1 r1 =>
          unfold rdX at hx
          split at hx
          · cases hx
          · rename_i l1 h1
            split at hx
            · cases hx
            · cases hx
            · rename_i i
              split at hx
              · rename_i xs hxs
                split at hx
                · rename_i ns hn
                  cases hx
                  refine ⟨i, xs, ?_, hxs, hn⟩
                  cases r1 with
                  | nil => cases h1
                  | cons a2 r2 =>
                    unfold rdX at h1
                    split at h1
                    · cases h1
                    · rename_i l2 h2
                      split at h1
                      · cases h1
                        cases r2 with
                        | nil => rfl
                        | cons a3 r3 =>
                          unfold rdX at h2
                          split at h2
                          · cases h2
                          · split at h2
                            · cases h2
                            · cases h2
                            · split at h2
                              · split at h2
                                · cases h2
                                · cases h2
                              · cases h2
                            · cases h2
                      · cases h1
                      · split at h1
                        · split at h1
                          · cases h1
                          · cases h1
                        · cases h1
                      · cases h1
                · cases hx
              · cases hx
            · cases hx
      obtain ⟨i, xs, rfl, hi, hn⟩ := hargs
      obtain rfl := toInts_eq hn
      cases ra with
      | cons ra1 ra2 =>
        cases ra2 with
        | cons rp ra3 =>
          cases ra3
          obtain ⟨la, ela, rfl⟩ := ra1
          obtain ⟨vs, n, g, rr⟩ := R.list hi ela
          have hb : base la = none := R.own i la ⟨_, hi, trivial⟩ ela
          have R' : Rep fa (fun b => if b = la then none else s.heap.get? b) (fun j => if j = 0 then some la else none) (St.nil.push (.list (l.map .int))) s.heap := {
            obj := fun j o e lv => by
              by_cases q : j = 0
              · subst q
                cases e
                exact ⟨la, listObj vs n, if_pos rfl, g, vs, n, rfl, RVs.of_ints rr.ints⟩
              · rw [St.at_push, if_neg (show ¬ j = St.nil.n from q)] at e
                cases e
            inj := fun j1 j2 a _ _ e1 e2 => by
              by_cases q1 : j1 = 0
              · by_cases q2 : j2 = 0
                · rw [q1, q2]
                · rw [if_neg q2] at e2; cases e2
              · rw [if_neg q1] at e1; cases e1
            lt := fun j a e => by
              by_cases q : j = 0
              · subst q; exact Nat.lt_succ_self _
              · rw [if_neg q] at e; cases e
            own := fun j a _ e => by
              by_cases q : j = 0
              · rw [if_pos q] at e; cases e; exact if_pos rfl
              · rw [if_neg q] at e; cases e
            keep := fun b o e => by
              by_cases q : b = la
              · rw [if_pos q] at e; cases e
              · rw [if_neg q] at e; exact e }
          have SB' : StatB prog w fa T0 (fun b => if b = la then none else s.heap.get? b) := SB.over fun b o e => by
            have q : b ≠ la := fun q => by rw [q, hb] at e; cases e
            rw [if_neg q]
            exact R.keep b o e
          refine (noX SB' 20000).call hrun (hr.less (j := 12) (by omega)) R' (f' := .ref (fa f)) rfl (.cons ⟨la, if_pos rfl, rfl⟩ (.cons (show RV fa _ (.int p) _ from rp) .nil)) fun ρ1 v' s1 l1 o1 R1 rv => ?_
          have e0 : ρ1 0 = some la := l1 _ _ (if_pos rfl)
          obtain ⟨ob, g1, vs1, n1, rfl, rr1⟩ := R1.getAt (stillL_at hs) e0
          have keep1 : ∀ b o, b ≠ la → s.heap.get? b = some o → s1.heap.get? b = some o := fun b o q e => R1.keep b o (by rw [if_neg q]; exact e)
          have lset : ∀ {hm : Heap}, hm.get? la = some (listObj vs1 n1) → (∀ b o, b ≠ la → s.heap.get? b = some o → hm.get? b = some o) → Rep fa base ρ σ hm := fun gm km =>
            Rep.congr (R.set (i := i) (o' := .list (l.map .int)) ⟨_, hi, trivial⟩ ela gm ⟨vs1, n1, rfl, RVs.of_ints rr1.ints⟩ km) (fun j => by
              rw [St.at_set]
              by_cases q : j = i
              · rw [if_pos q, q, hi]
              · rw [if_neg q]) rfl
          by_cases hlist : ∃ l', r = .ints l'
          · obtain ⟨l', rfl⟩ := hlist
            obtain ⟨j, hj0, rfl, hj⟩ := gives_list hg
            obtain ⟨a2, ea2, rfl⟩ := rv
            obtain ⟨ob2, g2, vs2, n2, rfl, rr2⟩ := R1.getAt hj ea2
            have hne : a2 ≠ la := fun q => hj0 (R1.inj j 0 la ⟨_, hj, trivial⟩ ⟨_, stillL_at hs, trivial⟩ (q ▸ ea2) e0)
            have hnew : s.heap.get? a2 = none := by
              have := R1.own j a2 ⟨_, hj, trivial⟩ ea2
              rwa [if_neg hne] at this
            have Rm : Rep fa base ρ σ (s.heap.update la fun _ => listObj vs1 n1) := lset (Heap.get?_update_self _ g rfl) fun b o q e => by rw [Heap.get?_update_ne _ _ _ _ q]; exact e
            have Rf := Rm.push (a := a2) (h' := s1.heap) (o' := .list (l'.map .int)) (ob' := listObj vs2 n2) (by rw [Heap.get?_update_ne _ _ _ _ hne]; exact hnew) g2 ⟨vs2, n2, rfl, RVs.of_ints rr2.ints⟩ fun b o e => by
              by_cases q : b = la
              · subst q
                rw [Heap.get?_update_self _ g rfl] at e
                cases e
                exact g1
              · rw [Heap.get?_update_ne _ _ _ _ q] at e
                exact keep1 b o q e
            exact h _ _ s1 (R.le_add a2) o1 Rf ⟨a2, addM_self .., rfl⟩
          · have hfl : ∀ l', r ≠ .ints l' := fun l' q => hlist ⟨l', q⟩
            have er := gives_flat hg hfl σ
            rw [er] at h
            exact h ρ v' s1 (.refl _) o1 (lset g1 keep1) (flat_RV hg hfl rv)
    · cases he
  · cases he

theorem kok_S (SB : StatB prog w fa T0 base) {e : Known} (he : okRunS e = true) : KOk prog w fa base e := by
  intro k A E s ρ σ args args' Q hk hr R ra hx h
  obtain ⟨f, xa, r⟩ := e
  unfold okRunS at he
  split at he
  · rename_i x hl
    dsimp only at hl hx h ⊢
    subst hl
    split at he
    · rename_i v σ1 hrun
      have hg := he
      have hargs : args = [.str x] := rdX_str hx
      subst hargs
      cases ra with
      | cons rx ra1 =>
        cases ra1
        have R' : Rep fa (fun b => s.heap.get? b) (fun _ => none) (St.nil.push .junk) s.heap := {
          obj := fun j o e lv => by
            rw [St.at_push] at e
            by_cases q : j = St.nil.n
            · rw [if_pos q] at e; cases e; exact lv.elim
            · rw [if_neg q] at e; cases e
          inj := fun _ _ _ _ _ e _ => by cases e
          lt := fun _ _ e => by cases e
          own := fun _ _ _ e => by cases e
          keep := fun b o e => e }
        have SB' : StatB prog w fa T0 (fun b => s.heap.get? b) := SB.over fun b o e => R.keep b o e
        refine (noX SB' 20000).call hrun (hr.less (j := 12) (by omega)) R' (f' := .ref (fa f)) rfl (.cons (show RV fa _ (.str x) _ from rx) .nil) fun ρ1 v' s1 l1 o1 R1 rv => ?_
        by_cases hlist : ∃ l', r = .ints l'
        · obtain ⟨l', rfl⟩ := hlist
          obtain ⟨j, hj0, rfl, hj⟩ := gives_list hg
          obtain ⟨a2, ea2, rfl⟩ := rv
          obtain ⟨ob2, g2, vs2, n2, rfl, rr2⟩ := R1.getAt hj ea2
          have hnew : s.heap.get? a2 = none := R1.own j a2 ⟨_, hj, trivial⟩ ea2
          have Rf := R.push (a := a2) (h' := s1.heap) (o' := .list (l'.map .int)) (ob' := listObj vs2 n2) hnew g2 ⟨vs2, n2, rfl, RVs.of_ints rr2.ints⟩ R1.keep
          exact h _ _ s1 (R.le_add a2) o1 Rf ⟨a2, addM_self .., rfl⟩
        · have hfl : ∀ l', r ≠ .ints l' := fun l' q => hlist ⟨l', q⟩
          have er := gives_flat hg hfl σ
          rw [er] at h
          exact h ρ v' s1 (.refl _) o1 (R.grow R1.keep) (flat_RV hg hfl rv)
    · cases he
  · cases he
end
end Mine
end

noncomputable section
open PySem PySem.W PyProof.Rows
set_option maxHeartbeats 0
namespace Mine
open_top hd for PySem.Challenge.rw_hn0003_01
end Mine
end

noncomputable section
set_option autoImplicit false
namespace Mine
open PySem PySem.W
open PyProof.Rows (AllBare StrsAre IntsAre)

noncomputable abbrev KF (P : Params) : Frag := hd.heap_39 P
def faN (i : Nat) : Addr := match i with
  | 1 => 21 | 2 => 28 | 3 => 35 | 5 => 44 | 6 => 53 | 8 => 60 | 9 => 67 | 10 => 72 | 11 => 77 | 12 => 82 | _ => 0
noncomputable def fdAt (P : Params) (a : Addr) : Option FuncData := match (KF P).lookup a with
  | some ⟨_, _, .func fd, _⟩ => some fd
  | _ => none
def stmtsOf (b : FuncBody) : List Stmt := match b with
  | .stmts l => l
  | _ => []
section
variable {prog : Program} {w : World} {fa : Nat → Addr} {T : Tab} {base : Addr → Option Obj} {A : Around} {E : Value → Shared → Prop} {s : Shared} {ρ : Map} {σ : St} {env : AEnv} {ce : Env} {k : Nat} {O : Ops}

theorem fdAt_spec {P : Params} {a : Addr} {fd : FuncData} (e : fdAt P a = some fd) : ∃ o, (KF P).lookup a = some o ∧ o.data = .func fd := by
  unfold fdAt at e
  split at e
  · rename_i q
    cases e
    exact ⟨_, q, rfl⟩
  · cases e
theorem RB.append {a b : List (Str × AV)} {x y : List (Str × Value)} (h : RB fa ρ a x) (h' : RB fa ρ b y) : RB fa ρ (a ++ b) (x ++ y) := by
  induction h with
  | nil => exact h'
  | cons r _ ih => exact .cons r ih
theorem RVs.drop {a : List AV} {v : List Value} (h : RVs fa ρ a v) (n : Nat) : RVs fa ρ (a.drop n) (v.drop n) := by
  induction h generalizing n with
  | nil => simp; exact .nil
  | cons r rr ih =>
    cases n with
    | zero => exact .cons r rr
    | succ n => exact ih n
theorem RVs.zip {a : List AV} {v : List Value} (h : RVs fa ρ a v) (ps : List Str) : RB fa ρ (ps.zip a) (ps.zip v) := by
  induction h generalizing ps with
  | nil => simp; exact .nil
  | cons r rr ih =>
    cases ps with
    | nil => exact .nil
    | cons p ps => exact .cons r (ih ps)

theorem fnOk_of {h : Heap} (X : (KF w.params).In h) {a : Addr} {fd : FuncData} {fi : FnInfo} (n : Nat) (hn : fi.params.length = n) (hf : fdAt w.params a = some fd) (hcd : codeIn (KF w.params) fd.code fd.qualname = true) (hb : fd.body = .stmts fi.body) (hsc : fd.scope = fi.scope)
    (hcl : fd.closure = []) (hg : fd.globals = mainGlobals) (hbu : fd.builtins = builtinsNs) (h1 : fd.scope.isCoroutine = false) (h2 : fd.scope.isGenerator = false) (h3 : fd.scope.kind = .function)
    (dv : List Value) (kv : List (Str × Value)) (hdv : ∀ ρ, RVs fa ρ fi.dflt dv) (hkv : ∀ ρ, RB fa ρ fi.kw kv)
    (hbind : ∀ vs : List Value, n ≤ vs.length + dv.length → vs.length ≤ n → peek (KF w.params) ⟨prog, w.params⟩ (bindArgs fd ⟨vs, []⟩) = some (fi.params.zip (vs ++ dv.drop (dv.length - (n - vs.length))) ++ kv)) :
    FnOk prog w fa h a fi := by
  subst hn
  obtain ⟨o, ho, hd⟩ := fdAt_spec hf
  refine ⟨o, fd, X _ _ ho, hd, codeRec_of X hcd, hb, hsc, hcl, hg, hbu, h1, h2, h3, fun avs bs e ρ vs rv => ?_⟩
  unfold bindA at e
  split at e
  · rename_i e1 e2
    cases e
    have l1 := Nat.le_of_ble_eq_true e1
    have l2 := Nat.le_of_ble_eq_true e2
    have lv := rv.length
    have ld := (hdv ρ).length
    have rb : RB fa ρ (fi.params.zip (avs ++ fi.dflt.drop (fi.dflt.length - (fi.params.length - avs.length))) ++ fi.kw) (fi.params.zip (vs ++ dv.drop (dv.length - (fi.params.length - vs.length))) ++ kv) := by
      rw [← lv, ← ld]
      exact ((rv.append ((hdv ρ).drop _)).zip _).append (hkv ρ)
    exact ⟨_, rb, fun A Q E s ks q => Looks.of_peek (M := model prog w) X (hbind vs (by omega) (by omega)) A Q E s ks q⟩
  · cases e

theorem inf_mem {i : Nat} {fi : FnInfo} : ∀ {l : List (Nat × List AV × List (Str × AV))}, infOf l i = some fi → ∃ e ∈ l, e.1 = i ∧ defAt PP e.1 e.2.1 e.2.2 = some fi
  | [], h => by cases h
  | e :: r, h => by
    unfold infOf at h
    split at h
    · rename_i q
      obtain rfl := Nat.eq_of_beq_eq_true q
      exact ⟨e, .head _, rfl, h⟩
    · obtain ⟨e', m, x⟩ := inf_mem h
      exact ⟨e', .tail _ m, x⟩
theorem lk_mem {α : Type} {x : Str} {v : α} : ∀ {l : List (Str × α)}, lk l x = some v → ∃ p ∈ l, p.1 = x ∧ p.2 = v
  | [], h => by cases h
  | p :: r, h => by
    unfold lk at h
    split at h
    · rename_i q
      cases h
      exact ⟨p, .head _, (sB_iff.mp q).symm, rfl⟩
    · obtain ⟨p', m, x⟩ := lk_mem h
      exact ⟨p', .tail _ m, x⟩

theorem glob_all {h : Heap} {mg mb : Str → Option Value} (X : (KF w.params).In h) (G : h.Ns mainGlobals mg) (B : ∀ x : Str, x ≠ "__name__" → mb x = bootBuiltins x) : ∀ p ∈ glL, mg p.1 = some (valF faN p.2) ∨ (mg p.1 = none ∧ mb p.1 = some (valF faN p.2)) := by
  have b : ∀ (x : Str) (v : Value), nsIn (KF w.params) mainGlobals x = some none → sB x "__name__" = false → bootBuiltins x = some v → mg x = some v ∨ (mg x = none ∧ mb x = some v) := fun x v e1 e2 e3 =>
    .inr ⟨mg_none_of X G e1, by rw [B x (sB_false e2), e3]⟩
  have u : ∀ (x : Str) (v : Value), nsIn (KF w.params) mainGlobals x = some (some v) → mg x = some v ∨ (mg x = none ∧ mb x = some v) := fun x v e => .inl (mg_of X G e)
  intro p hp
  unfold glL at hp
  simp only [List.mem_cons, List.not_mem_nil, or_false] at hp
  rcases hp with rfl | rfl | rfl | rfl | rfl | rfl | rfl | rfl | rfl | rfl | rfl | rfl | rfl | rfl | rfl
  · exact b _ _ (by kernel_rfl) (by kernel_rfl) (by kernel_rfl)
  · exact b _ _ (by kernel_rfl) (by kernel_rfl) (by kernel_rfl)
  · exact b _ _ (by kernel_rfl) (by kernel_rfl) (by kernel_rfl)
  · exact b _ _ (by kernel_rfl) (by kernel_rfl) (by kernel_rfl)
  · exact b _ _ (by kernel_rfl) (by kernel_rfl) (by kernel_rfl)
  all_goals exact u _ _ (by kernel_rfl)

theorem RV_dflt {t : Tok} : RVs faN ρ [.int 0, .none] [.int 0 t, .none] := .cons ⟨_, rfl⟩ (.cons rfl .nil)
theorem RB_kw : RB faN ρ [("key", .none)] [("key", .none)] := .cons rfl .nil

theorem fn2 {h : Heap} (X : (KF w.params).In h) {fi : FnInfo} (e : defAt PP 2 [] [] = some fi) : FnOk prog w faN h (faN 2) fi := by
  have hs : (fdAt w.params 28).isSome = true := by kernel_rfl
  have e' : defAt PP 2 [] [] = some ⟨((fdAt w.params 28).get hs).params.args.map (·.arg), [], [], stmtsOf ((fdAt w.params 28).get hs).body, ((fdAt w.params 28).get hs).scope⟩ := by kernel_rfl
  rw [e'] at e
  cases e
  refine fnOk_of X (fd := (fdAt w.params 28).get hs) 1 (by kernel_rfl) (Option.some_get hs).symm (by kernel_rfl) (by kernel_rfl) rfl (by kernel_rfl) (by kernel_rfl) (by kernel_rfl) (by kernel_rfl) (by kernel_rfl) (by kernel_rfl) [] [] (fun ρ => .nil) (fun ρ => .nil) fun vs h1 h2 => ?_
  match vs, h1, h2 with
  | [], h1, _ => exact absurd h1 (by simp)
  | [a], _, _ => kernel_rfl
  | a :: x :: r, _, h2 => exact absurd h2 (by simp)

theorem fn3 {h : Heap} (X : (KF w.params).In h) {fi : FnInfo} (e : defAt PP 3 [] [] = some fi) : FnOk prog w faN h (faN 3) fi := by
  have hs : (fdAt w.params 35).isSome = true := by kernel_rfl
  have e' : defAt PP 3 [] [] = some ⟨((fdAt w.params 35).get hs).params.args.map (·.arg), [], [], stmtsOf ((fdAt w.params 35).get hs).body, ((fdAt w.params 35).get hs).scope⟩ := by kernel_rfl
  rw [e'] at e
  cases e
  refine fnOk_of X (fd := (fdAt w.params 35).get hs) 1 (by kernel_rfl) (Option.some_get hs).symm (by kernel_rfl) (by kernel_rfl) rfl (by kernel_rfl) (by kernel_rfl) (by kernel_rfl) (by kernel_rfl) (by kernel_rfl) (by kernel_rfl) [] [] (fun ρ => .nil) (fun ρ => .nil) fun vs h1 h2 => ?_
  match vs, h1, h2 with
  | [], h1, _ => exact absurd h1 (by simp)
  | [a], _, _ => kernel_rfl
  | a :: x :: r, _, h2 => exact absurd h2 (by simp)

theorem fn5 {h : Heap} (X : (KF w.params).In h) {fi : FnInfo} (e : defAt PP 5 [.int 0, .none] [("key", .none)] = some fi) : FnOk prog w faN h (faN 5) fi := by
  have hs : (fdAt w.params 44).isSome = true := by kernel_rfl
  have e' : defAt PP 5 [.int 0, .none] [("key", .none)] = some ⟨((fdAt w.params 44).get hs).params.args.map (·.arg), [.int 0, .none], [("key", .none)], stmtsOf ((fdAt w.params 44).get hs).body, ((fdAt w.params 44).get hs).scope⟩ := by kernel_rfl
  rw [e'] at e
  cases e
  refine fnOk_of X (fd := (fdAt w.params 44).get hs) 4 (by kernel_rfl) (Option.some_get hs).symm (by kernel_rfl) (by kernel_rfl) rfl (by kernel_rfl) (by kernel_rfl) (by kernel_rfl) (by kernel_rfl) (by kernel_rfl) (by kernel_rfl) [.int 0 223, .none] [("key", .none)] (fun ρ => RV_dflt) (fun ρ => RB_kw) fun vs h1 h2 => ?_
  match vs, h1, h2 with
  | [], h1, _ => exact absurd h1 (by simp)
  | [a], h1, _ => exact absurd h1 (by simp)
  | [a, b], _, _ => kernel_rfl
  | [a, b, c], _, _ => kernel_rfl
  | [a, b, c, d], _, _ => kernel_rfl
  | a :: b :: c :: d :: x :: r, _, h2 => exact absurd h2 (by simp)

theorem fn6 {h : Heap} (X : (KF w.params).In h) {fi : FnInfo} (e : defAt PP 6 [.int 0, .none] [("key", .none)] = some fi) : FnOk prog w faN h (faN 6) fi := by
  have hs : (fdAt w.params 53).isSome = true := by kernel_rfl
  have e' : defAt PP 6 [.int 0, .none] [("key", .none)] = some ⟨((fdAt w.params 53).get hs).params.args.map (·.arg), [.int 0, .none], [("key", .none)], stmtsOf ((fdAt w.params 53).get hs).body, ((fdAt w.params 53).get hs).scope⟩ := by kernel_rfl
  rw [e'] at e
  cases e
  refine fnOk_of X (fd := (fdAt w.params 53).get hs) 4 (by kernel_rfl) (Option.some_get hs).symm (by kernel_rfl) (by kernel_rfl) rfl (by kernel_rfl) (by kernel_rfl) (by kernel_rfl) (by kernel_rfl) (by kernel_rfl) (by kernel_rfl) [.int 0 236, .none] [("key", .none)] (fun ρ => RV_dflt) (fun ρ => RB_kw) fun vs h1 h2 => ?_
  match vs, h1, h2 with
  | [], h1, _ => exact absurd h1 (by simp)
  | [a], h1, _ => exact absurd h1 (by simp)
  | [a, b], _, _ => kernel_rfl
  | [a, b, c], _, _ => kernel_rfl
  | [a, b, c, d], _, _ => kernel_rfl
  | a :: b :: c :: d :: x :: r, _, h2 => exact absurd h2 (by simp)

theorem fn8 {h : Heap} (X : (KF w.params).In h) {fi : FnInfo} (e : defAt PP 8 [] [] = some fi) : FnOk prog w faN h (faN 8) fi := by
  have hs : (fdAt w.params 60).isSome = true := by kernel_rfl
  have e' : defAt PP 8 [] [] = some ⟨((fdAt w.params 60).get hs).params.args.map (·.arg), [], [], stmtsOf ((fdAt w.params 60).get hs).body, ((fdAt w.params 60).get hs).scope⟩ := by kernel_rfl
  rw [e'] at e
  cases e
  refine fnOk_of X (fd := (fdAt w.params 60).get hs) 2 (by kernel_rfl) (Option.some_get hs).symm (by kernel_rfl) (by kernel_rfl) rfl (by kernel_rfl) (by kernel_rfl) (by kernel_rfl) (by kernel_rfl) (by kernel_rfl) (by kernel_rfl) [] [] (fun ρ => .nil) (fun ρ => .nil) fun vs h1 h2 => ?_
  match vs, h1, h2 with
  | [], h1, _ => exact absurd h1 (by simp)
  | [a], h1, _ => exact absurd h1 (by simp)
  | [a, b], _, _ => kernel_rfl
  | a :: b :: x :: r, _, h2 => exact absurd h2 (by simp)

theorem fn9 {h : Heap} (X : (KF w.params).In h) {fi : FnInfo} (e : defAt PP 9 [] [] = some fi) : FnOk prog w faN h (faN 9) fi := by
  have hs : (fdAt w.params 67).isSome = true := by kernel_rfl
  have e' : defAt PP 9 [] [] = some ⟨((fdAt w.params 67).get hs).params.args.map (·.arg), [], [], stmtsOf ((fdAt w.params 67).get hs).body, ((fdAt w.params 67).get hs).scope⟩ := by kernel_rfl
  rw [e'] at e
  cases e
  refine fnOk_of X (fd := (fdAt w.params 67).get hs) 1 (by kernel_rfl) (Option.some_get hs).symm (by kernel_rfl) (by kernel_rfl) rfl (by kernel_rfl) (by kernel_rfl) (by kernel_rfl) (by kernel_rfl) (by kernel_rfl) (by kernel_rfl) [] [] (fun ρ => .nil) (fun ρ => .nil) fun vs h1 h2 => ?_
  match vs, h1, h2 with
  | [], h1, _ => exact absurd h1 (by simp)
  | [a], _, _ => kernel_rfl
  | a :: x :: r, _, h2 => exact absurd h2 (by simp)

theorem fn10 {h : Heap} (X : (KF w.params).In h) {fi : FnInfo} (e : defAt PP 10 [] [] = some fi) : FnOk prog w faN h (faN 10) fi := by
  have hs : (fdAt w.params 72).isSome = true := by kernel_rfl
  have e' : defAt PP 10 [] [] = some ⟨((fdAt w.params 72).get hs).params.args.map (·.arg), [], [], stmtsOf ((fdAt w.params 72).get hs).body, ((fdAt w.params 72).get hs).scope⟩ := by kernel_rfl
  rw [e'] at e
  cases e
  refine fnOk_of X (fd := (fdAt w.params 72).get hs) 1 (by kernel_rfl) (Option.some_get hs).symm (by kernel_rfl) (by kernel_rfl) rfl (by kernel_rfl) (by kernel_rfl) (by kernel_rfl) (by kernel_rfl) (by kernel_rfl) (by kernel_rfl) [] [] (fun ρ => .nil) (fun ρ => .nil) fun vs h1 h2 => ?_
  match vs, h1, h2 with
  | [], h1, _ => exact absurd h1 (by simp)
  | [a], _, _ => kernel_rfl
  | a :: x :: r, _, h2 => exact absurd h2 (by simp)

theorem fn11 {h : Heap} (X : (KF w.params).In h) {fi : FnInfo} (e : defAt PP 11 [] [] = some fi) : FnOk prog w faN h (faN 11) fi := by
  have hs : (fdAt w.params 77).isSome = true := by kernel_rfl
  have e' : defAt PP 11 [] [] = some ⟨((fdAt w.params 77).get hs).params.args.map (·.arg), [], [], stmtsOf ((fdAt w.params 77).get hs).body, ((fdAt w.params 77).get hs).scope⟩ := by kernel_rfl
  rw [e'] at e
  cases e
  refine fnOk_of X (fd := (fdAt w.params 77).get hs) 2 (by kernel_rfl) (Option.some_get hs).symm (by kernel_rfl) (by kernel_rfl) rfl (by kernel_rfl) (by kernel_rfl) (by kernel_rfl) (by kernel_rfl) (by kernel_rfl) (by kernel_rfl) [] [] (fun ρ => .nil) (fun ρ => .nil) fun vs h1 h2 => ?_
  match vs, h1, h2 with
  | [], h1, _ => exact absurd h1 (by simp)
  | [a], h1, _ => exact absurd h1 (by simp)
  | [a, b], _, _ => kernel_rfl
  | a :: b :: x :: r, _, h2 => exact absurd h2 (by simp)

theorem fn12 {h : Heap} (X : (KF w.params).In h) {fi : FnInfo} (e : defAt PP 12 [] [] = some fi) : FnOk prog w faN h (faN 12) fi := by
  have hs : (fdAt w.params 82).isSome = true := by kernel_rfl
  have e' : defAt PP 12 [] [] = some ⟨((fdAt w.params 82).get hs).params.args.map (·.arg), [], [], stmtsOf ((fdAt w.params 82).get hs).body, ((fdAt w.params 82).get hs).scope⟩ := by kernel_rfl
  rw [e'] at e
  cases e
  refine fnOk_of X (fd := (fdAt w.params 82).get hs) 1 (by kernel_rfl) (Option.some_get hs).symm (by kernel_rfl) (by kernel_rfl) rfl (by kernel_rfl) (by kernel_rfl) (by kernel_rfl) (by kernel_rfl) (by kernel_rfl) (by kernel_rfl) [] [] (fun ρ => .nil) (fun ρ => .nil) fun vs h1 h2 => ?_
  match vs, h1, h2 with
  | [], h1, _ => exact absurd h1 (by simp)
  | [a], _, _ => kernel_rfl
  | a :: x :: r, _, h2 => exact absurd h2 (by simp)
end
end Mine
end

noncomputable section
set_option autoImplicit false
namespace Mine
open PySem PySem.W
open PyProof.Rows (AllBare StrsAre IntsAre)

theorem fi13_is : fi13.isSome = true := by kernel_rfl
def lawInfo : FnInfo := fi13.get fi13_is
def lawBody : List Stmt := lawInfo.body.drop 2
def lawEnv : AEnv := ⟨lawInfo.scope, 0, [("again", 6), ("words", 5), ("other", 4), ("one", 3), ("numbers", 2), ("many", 1)]⟩
def resAt (m k : Nat) (a : Int) : AV := match Nat.blt (k + 1) m with
  | true => .res k a
  | false => .any
def numsA (m : Nat) (a1 a2 b1 b2 : Int) : List AV := [resAt m 0 0, resAt m 1 a1, resAt m 2 a2, .any, resAt m 0 0, resAt m 1 b1, resAt m 2 b2, .any]
def lawSt (m : Nat) (a1 a2 b1 b2 : Int) : St :=
  ((((((((St.nil.push (.ns [("script", .any)])).push (.cell (some (.int m)))).push (.cell (some (.ref 7)))).push (.cell none)).push (.cell none)).push (.cell none)).push (.cell none)).push (.list (numsA m a1 a2 b1 b2)))
def lawOk (m : Nat) (a1 a2 b1 b2 : Int) : Bool := match (run T1 20000).exs 80 lawBody lawEnv (lawSt m a1 a2 b1 b2) with
  | some (.ret (.bool true), _) => true
  | _ => false
theorem ok1 : lawOk 1 0 0 0 0 = true := by decide +kernel
theorem ok2 : lawOk 2 0 0 0 0 = true := by decide +kernel
theorem ok3_00 : lawOk 3 0 0 0 0 = true := by decide +kernel
theorem ok3_01 : lawOk 3 0 0 1 0 = true := by decide +kernel
theorem ok3_10 : lawOk 3 1 0 0 0 = true := by decide +kernel
theorem ok3_11 : lawOk 3 1 0 1 0 = true := by decide +kernel
end Mine
end

noncomputable section
set_option autoImplicit false
namespace Mine
open PySem PySem.W
open PyProof.Rows (AllBare StrsAre IntsAre News Fr)

theorem told_ok : tabTold.all okRunI = true := by decide +kernel
theorem begun_ok : tabBegun.all okRunI = true := by decide +kernel
theorem back_ok : tabBack.all okRunS = true := by decide +kernel

section
variable {prog : Program} {w : World} {fa : Nat → Addr} {T : Tab} {base : Addr → Option Obj} {A : Around} {E : Value → Shared → Prop} {s : Shared} {ρ : Map} {σ : St} {env : AEnv} {ce : Env} {k : Nat} {O : Ops}

theorem statB_of {h₀ : Heap} {mg mb : Str → Option Value} (X : (KF w.params).In h₀) (G : h₀.Ns mainGlobals mg) (Bn : h₀.Ns builtinsNs mb) (B : ∀ x : Str, x ≠ "__name__" → mb x = bootBuiltins x) (NL : h₀.NoLimit) : StatB prog w faN T0 h₀.get? := by
  intro h kk
  have X' := X.keeps kk
  refine ⟨fun x f e => ?_, NL.keeps kk, fun i fi e => ?_⟩
  · obtain ⟨p, hp, rfl, rfl⟩ := lk_mem (show lk glL x = some f from e)
    exact ⟨mg, mb, G.keeps kk, Bn.keeps kk, glob_all X' (G.keeps kk) B p hp⟩
  · obtain ⟨e1, m, rfl, hd⟩ := inf_mem (show infOf infL i = some fi from e)
    unfold infL at m
    simp only [List.mem_cons, List.not_mem_nil, or_false] at m
    rcases m with rfl | rfl | rfl | rfl | rfl | rfl | rfl | rfl | rfl
    · exact fn2 X' hd
    · exact fn3 X' hd
    · exact fn5 X' hd
    · exact fn6 X' hd
    · exact fn8 X' hd
    · exact fn9 X' hd
    · exact fn10 X' hd
    · exact fn11 X' hd
    · exact fn12 X' hd

theorem known_all (SB : StatB prog w faN T0 base) (HC : ∀ e ∈ tabCheck, KOk prog w faN base e) : ∀ e ∈ tab, KOk prog w faN base e := by
  intro e m
  unfold tab at m
  rw [List.mem_append, List.mem_append, List.mem_append] at m
  rcases m with ((m | m) | m) | m
  · exact kok_I SB (List.all_eq_true.mp told_ok e m)
  · exact kok_I SB (List.all_eq_true.mp begun_ok e m)
  · exact kok_S SB (List.all_eq_true.mp back_ok e m)
  · exact HC e m

theorem push_cases {i : Nat} {o o' : AO} (e : (σ.push o').at i = some o) : (i = σ.n ∧ o = o') ∨ σ.at i = some o := by
  rw [St.at_push] at e
  by_cases q : i = σ.n
  · rw [if_pos q] at e; cases e; exact .inl ⟨q, rfl⟩
  · rw [if_neg q] at e; exact .inr e
/-- the numbers, by residue -/
theorem res_is {m k : Nat} {a n : Int} {t : Tok} (h : k + 1 < m → n.fmod (.ofNat (k + 1)) = a) : RV fa ρ (resAt m k a) (.int n t) := by
  unfold resAt
  split
  · rename_i q
    have : k + 1 < m := by
      have := Nat.le_of_ble_eq_true (show Nat.ble (k + 1 + 1) m = true from q)
      omega
    exact ⟨n, t, rfl, h this⟩
  · trivial

def addrMap (l : List Addr) : Map := fun i => l[i]?

theorem law_rep {h₀ : Heap} {h : Heap} {L c1 c2 c3 c4 c5 c6 D : Addr} {m : Nat} {mp : Str → Option Value} {mt : Tok} {ws : Array Value} {wn : Nat} {a1 a2 b1 b2 : Int}
    (keep : ∀ b o, h₀.get? b = some o → h.get? b = some o) (hns : h.Ns L mp) (hmp : ∀ x : Str, if x = ("script" : Str) then (mp x).isSome = true else mp x = none)
    (h1 : h.IsCell c1 (some (.int m mt))) (h2 : h.IsCell c2 (some (.ref D))) (h3 : h.IsCell c3 none) (h4 : h.IsCell c4 none) (h5 : h.IsCell c5 none) (h6 : h.IsCell c6 none)
    (hD : h.get? D = some (listObj ws wn)) (hw : RVs fa (addrMap [L, c1, c2, c3, c4, c5, c6, D]) (numsA m a1 a2 b1 b2) ws.toList)
    (hnew : ∀ a ∈ [L, c1, c2, c3, c4, c5, c6, D], h₀.get? a = none) (hdis : [L, c1, c2, c3, c4, c5, c6, D].Nodup) :
    Rep fa h₀.get? (addrMap [L, c1, c2, c3, c4, c5, c6, D]) (lawSt m a1 a2 b1 b2) h := by
  have cell : ∀ {c : Addr} {v : Option Value} {a : Option AV}, h.IsCell c v → RVo fa (addrMap [L, c1, c2, c3, c4, c5, c6, D]) a v → ∃ ob, h.get? c = some ob ∧ RO fa (addrMap [L, c1, c2, c3, c4, c5, c6, D]) ob (.cell a) := fun ⟨ob, g, hd⟩ r => ⟨ob, g, _, hd, r⟩
  have key : ∀ i o, (lawSt m a1 a2 b1 b2).at i = some o → ∃ a ob, addrMap [L, c1, c2, c3, c4, c5, c6, D] i = some a ∧ h.get? a = some ob ∧ RO fa (addrMap [L, c1, c2, c3, c4, c5, c6, D]) ob o := by
    intro i o e
    unfold lawSt at e
    rcases push_cases e with ⟨rfl, rfl⟩ | e
    · exact ⟨D, _, rfl, hD, ws, wn, rfl, hw⟩
    rcases push_cases e with ⟨rfl, rfl⟩ | e
    · obtain ⟨ob, g, r⟩ := cell (a := none) h6 trivial; exact ⟨c6, ob, rfl, g, r⟩
    rcases push_cases e with ⟨rfl, rfl⟩ | e
    · obtain ⟨ob, g, r⟩ := cell (a := none) h5 trivial; exact ⟨c5, ob, rfl, g, r⟩
    rcases push_cases e with ⟨rfl, rfl⟩ | e
    · obtain ⟨ob, g, r⟩ := cell (a := none) h4 trivial; exact ⟨c4, ob, rfl, g, r⟩
    rcases push_cases e with ⟨rfl, rfl⟩ | e
    · obtain ⟨ob, g, r⟩ := cell (a := none) h3 trivial; exact ⟨c3, ob, rfl, g, r⟩
    rcases push_cases e with ⟨rfl, rfl⟩ | e
    · obtain ⟨ob, g, r⟩ := cell (a := some (.ref 7)) h2 ⟨D, rfl, rfl⟩; exact ⟨c2, ob, rfl, g, r⟩
    rcases push_cases e with ⟨rfl, rfl⟩ | e
    · obtain ⟨ob, g, r⟩ := cell (a := some (.int m)) h1 ⟨mt, rfl⟩; exact ⟨c1, ob, rfl, g, r⟩
    rcases push_cases e with ⟨rfl, rfl⟩ | e
    · obtain ⟨ob, g, ro⟩ := RO.of_ns (fa := fa) (ρ := addrMap [L, c1, c2, c3, c4, c5, c6, D]) (m := [("script", .any)]) hns fun x => by
        have q := hmp x
        unfold lk
        split
        · rename_i z
          rw [if_pos (sB_iff.mp z)] at q
          cases e1 : mp x with
          | none => rw [e1] at q; cases q
          | some v => trivial
        · rename_i z
          rw [if_neg (sB_false z)] at q
          rw [q]
          trivial
      exact ⟨L, ob, rfl, g, ro⟩
    · cases e
  exact {
    obj := fun i o e _ => key i o e
    inj := fun i j a _ _ e1 e2 => by
      unfold addrMap at e1 e2
      obtain ⟨hi, q1⟩ := List.getElem?_eq_some_iff.mp e1
      obtain ⟨hj, q2⟩ := List.getElem?_eq_some_iff.mp e2
      exact (List.getElem_inj hdis).mp (q1.trans q2.symm)
    lt := fun i a e => by
      unfold addrMap at e
      obtain ⟨hi, _⟩ := List.getElem?_eq_some_iff.mp e
      exact hi
    own := fun i a _ e => by
      unfold addrMap at e
      exact hnew a (List.mem_of_getElem? e)
    keep := keep }
end
end Mine
end

noncomputable section
set_option autoImplicit false
namespace Mine
open PySem PySem.W

/-! a store thinned out: what later statements do not read is forgotten -/
def thinV (v v' : AV) : Bool := match v' with
  | .any => true
  | .none => match v with | .none => true | _ => false
  | .bool b => match v with | .bool c => c == b | _ => false
  | .int i => match v with | .int j => decide (j = i) | _ => false
  | .str x => match v with | .str y => sB y x | _ => false
  | .ref i => match v with | .ref j => Nat.beq j i | _ => false
  | _ => false
def thinL : List AV → List AV → Bool
  | [], [] => true
  | x :: r, y :: t => thinV x y && thinL r t
  | _, _ => false
def thinM : List (Str × AV) → List (Str × AV) → Bool
  | [], [] => true
  | p :: r, q :: t => sB p.1 q.1 && thinV p.2 q.2 && thinM r t
  | _, _ => false
def thinO (o o' : AO) : Bool := match o' with
  | .ns m' => match o with | .ns m => thinM m m' | _ => false
  | .cell none => match o with | .cell none => true | _ => false
  | .cell (some v') => match o with | .cell (some v) => thinV v v' | _ => false
  | .list l' => match o with | .list l => thinL l l' | _ => false
  | _ => false
def mkSt : List (Nat × AO) → Nat → St
  | [], n => ⟨.leaf, n⟩
  | p :: r, n => (mkSt r n).set p.1 p.2
def thinS (σ : St) (l : List (Nat × AO)) (n : Nat) : Bool := Nat.beq σ.n n && l.all fun p => match σ.at p.1 with
  | some o => thinO o p.2
  | none => false

section
variable {prog : Program} {w : World} {fa : Nat → Addr} {base : Addr → Option Obj} {A : Around} {E : Value → Shared → Prop} {s : Shared} {ρ : Map} {σ : St}
theorem thinV_rv {v v' : AV} {u : Value} (h : thinV v v' = true) (r : RV fa ρ v u) : RV fa ρ v' u := by
  unfold thinV at h
  split at h
  · trivial
  · split at h
    · exact r
    · cases h
  · split at h
    · obtain rfl := eq_of_beq h; exact r
    · cases h
  · split at h
    · obtain rfl := of_decide_eq_true h; exact r
    · cases h
  · split at h
    · obtain rfl := sB_iff.mp h; exact r
    · cases h
  · split at h
    · obtain rfl := Nat.eq_of_beq_eq_true h; exact r
    · cases h
  · cases h
theorem thinL_rv : ∀ {l l' : List AV} {us : List Value}, thinL l l' = true → RVs fa ρ l us → RVs fa ρ l' us
  | [], [], _, _, .nil => .nil
  | x :: r, y :: t, _, h, .cons a b => by
    have h' : (thinV x y && thinL r t) = true := h
    rw [Bool.and_eq_true] at h'
    exact .cons (thinV_rv h'.1 a) (thinL_rv h'.2 b)
  | [], _ :: _, _, h, _ => absurd h Bool.false_ne_true
  | _ :: _, [], _, h, _ => absurd h Bool.false_ne_true
theorem thinM_rv {x : Str} {u : Option Value} : ∀ {m m' : List (Str × AV)}, thinM m m' = true → RVo fa ρ (lk m x) u → RVo fa ρ (lk m' x) u
  | [], [], _, h => h
  | p :: r, q :: t, h, hu => by
    have h' : (sB p.1 q.1 && thinV p.2 q.2 && thinM r t) = true := h
    rw [Bool.and_eq_true, Bool.and_eq_true] at h'
    obtain ⟨⟨h1, h2⟩, h3⟩ := h'
    have e1 := sB_iff.mp h1
    unfold lk at hu ⊢
    rw [← e1]
    cases z : sB x p.1 with
    | true =>
      rw [z] at hu
      cases u with
      | none => exact hu.elim
      | some u => exact thinV_rv h2 hu
    | false =>
      rw [z] at hu
      exact thinM_rv h3 hu
  | [], _ :: _, h, _ => absurd h Bool.false_ne_true
  | _ :: _, [], h, _ => absurd h Bool.false_ne_true
theorem thinO_ro {o o' : AO} {ob : Obj} (h : thinO o o' = true) (r : RO fa ρ ob o) : RO fa ρ ob o' := by
  unfold thinO at h
  split at h
  · split at h
    · obtain ⟨es, ep, hd, hk, hx⟩ := r
      exact ⟨es, ep, hd, hk, fun x => thinM_rv h (hx x)⟩
    · cases h
  · split at h
    · exact r
    · cases h
  · split at h
    · obtain ⟨v', hd, hv⟩ := r
      refine ⟨v', hd, ?_⟩
      cases v' with
      | none => exact hv.elim
      | some u => exact thinV_rv h hv
    · cases h
  · split at h
    · obtain ⟨vs, n, e, hv⟩ := r
      exact ⟨vs, n, e, thinL_rv h hv⟩
    · cases h
  · cases h
theorem thinO_live {o o' : AO} (h : thinO o o' = true) : o.live := by
  unfold thinO at h
  cases o <;> first | trivial | (exfalso; revert h; cases o' with
    | cell v => cases v <;> (intro h; cases h)
    | _ => intro h; cases h)
theorem mkSt_at {i : Nat} {o : AO} {n : Nat} : ∀ {l : List (Nat × AO)}, (mkSt l n).at i = some o → (i, o) ∈ l
  | [], e => by cases e
  | p :: r, e => by
    have e' : ((mkSt r n).set p.1 p.2).at i = some o := e
    rw [St.at_set] at e'
    by_cases q : i = p.1
    · rw [if_pos q] at e'
      cases e'
      rw [q]; exact .head _
    · rw [if_neg q] at e'
      exact .tail _ (mkSt_at e')
theorem mkSt_n {n : Nat} : ∀ {l : List (Nat × AO)}, (mkSt l n).n = n
  | [] => rfl
  | p :: r => by
    show ((mkSt r n).set p.1 p.2).n = n
    rw [St.set_n, mkSt_n]
theorem Rep.thin {h : Heap} {l : List (Nat × AO)} {n : Nat} (R : Rep fa base ρ σ h) (ht : thinS σ l n = true) : Rep fa base ρ (mkSt l n) h := by
  unfold thinS at ht
  rw [Bool.and_eq_true] at ht
  obtain ⟨hn, hl⟩ := ht
  have hn' := Nat.eq_of_beq_eq_true hn
  have key : ∀ i o', (mkSt l n).at i = some o' → ∃ o, σ.at i = some o ∧ thinO o o' = true := fun i o' e => by
    have := List.all_eq_true.mp hl _ (mkSt_at e)
    dsimp only at this
    split at this
    · rename_i o q; exact ⟨o, q, this⟩
    · cases this
  have live : ∀ i, (mkSt l n).live i → σ.live i := by
    rintro i ⟨o', e, _⟩
    obtain ⟨o, q, t⟩ := key i o' e
    exact ⟨o, q, thinO_live t⟩
  exact {
    obj := fun i o' e _ => by
      obtain ⟨o, q, t⟩ := key i o' e
      obtain ⟨a, ob, e1, e2, e3⟩ := R.obj i o q (thinO_live t)
      exact ⟨a, ob, e1, e2, thinO_ro t e3⟩
    inj := fun i j a l1 l2 => R.inj i j a (live i l1) (live j l2)
    lt := fun i a e => by rw [mkSt_n, ← hn']; exact R.lt i a e
    own := fun i a l1 => R.own i a (live i l1)
    keep := R.keep }
theorem execs_append (ce : Env) (l2 : List Stmt) : ∀ l1 : List Stmt, execs (l1 ++ l2) ce = (execs l1 ce >>= fun f => match f with | .next => execs l2 ce | f => pure f)
  | [] => rfl
  | st :: r => by
    rw [List.cons_append, execs_cons, execs_cons, execs_append ce l2 r, bind_assoc]
    congr 1
    funext f
    cases f <;> first | rfl | simp
end
end Mine
end

noncomputable section
set_option autoImplicit false
namespace Mine
open PySem PySem.W
/-! four places: up to the sixth statement for each pair of trees, from there for each first tree -/
def leftW (a1 a2 : Int) : Str := match extL tabTold 8 [.ints [0, 0, a1, a2], .int 0] with
  | some (.str x) => x
  | _ => ""
def LB (a1 a2 : Int) : List (Nat × AO) := [(0, .ns [("script", .any), ("right", .any), ("left", .str (leftW a1 a2)), ("alike", .any)]), (1, .cell (some (.int 4))), (2, .cell (some .any)), (3, .cell (some (.ref 13))), (4, .cell (some .any)), (5, .cell none), (6, .cell none), (13, .list [.int 0, .int 0, .int a1, .int a2])]
def lawA (a1 a2 b1 b2 : Int) : Bool := match (run T1 20000).exs 80 (lawBody.take 6) lawEnv (lawSt 4 a1 a2 b1 b2) with
  | some (.next, σ) => thinS σ (LB a1 a2) 327
  | _ => false
def lawB (a1 a2 : Int) : Bool := match (run T1 20000).exs 80 (lawBody.drop 6) lawEnv (mkSt (LB a1 a2) 327) with
  | some (.ret (.bool true), _) => true
  | _ => false
theorem okB_00 : lawB 0 0 = true := by decide +kernel
theorem okA_0000 : lawA 0 0 0 0 = true := by decide +kernel
theorem okA_0001 : lawA 0 0 0 1 = true := by decide +kernel
theorem okA_0002 : lawA 0 0 0 2 = true := by decide +kernel
theorem okA_0010 : lawA 0 0 1 0 = true := by decide +kernel
theorem okA_0011 : lawA 0 0 1 1 = true := by decide +kernel
theorem okA_0012 : lawA 0 0 1 2 = true := by decide +kernel
theorem okB_01 : lawB 0 1 = true := by decide +kernel
theorem okA_0100 : lawA 0 1 0 0 = true := by decide +kernel
theorem okA_0101 : lawA 0 1 0 1 = true := by decide +kernel
theorem okA_0102 : lawA 0 1 0 2 = true := by decide +kernel
theorem okA_0110 : lawA 0 1 1 0 = true := by decide +kernel
theorem okA_0111 : lawA 0 1 1 1 = true := by decide +kernel
theorem okA_0112 : lawA 0 1 1 2 = true := by decide +kernel
theorem okB_02 : lawB 0 2 = true := by decide +kernel
theorem okA_0200 : lawA 0 2 0 0 = true := by decide +kernel
theorem okA_0201 : lawA 0 2 0 1 = true := by decide +kernel
theorem okA_0202 : lawA 0 2 0 2 = true := by decide +kernel
theorem okA_0210 : lawA 0 2 1 0 = true := by decide +kernel
theorem okA_0211 : lawA 0 2 1 1 = true := by decide +kernel
theorem okA_0212 : lawA 0 2 1 2 = true := by decide +kernel
theorem okB_10 : lawB 1 0 = true := by decide +kernel
theorem okA_1000 : lawA 1 0 0 0 = true := by decide +kernel
theorem okA_1001 : lawA 1 0 0 1 = true := by decide +kernel
theorem okA_1002 : lawA 1 0 0 2 = true := by decide +kernel
theorem okA_1010 : lawA 1 0 1 0 = true := by decide +kernel
theorem okA_1011 : lawA 1 0 1 1 = true := by decide +kernel
theorem okA_1012 : lawA 1 0 1 2 = true := by decide +kernel
theorem okB_11 : lawB 1 1 = true := by decide +kernel
theorem okA_1100 : lawA 1 1 0 0 = true := by decide +kernel
theorem okA_1101 : lawA 1 1 0 1 = true := by decide +kernel
theorem okA_1102 : lawA 1 1 0 2 = true := by decide +kernel
theorem okA_1110 : lawA 1 1 1 0 = true := by decide +kernel
theorem okA_1111 : lawA 1 1 1 1 = true := by decide +kernel
theorem okA_1112 : lawA 1 1 1 2 = true := by decide +kernel
theorem okB_12 : lawB 1 2 = true := by decide +kernel
theorem okA_1200 : lawA 1 2 0 0 = true := by decide +kernel
theorem okA_1201 : lawA 1 2 0 1 = true := by decide +kernel
theorem okA_1202 : lawA 1 2 0 2 = true := by decide +kernel
theorem okA_1210 : lawA 1 2 1 0 = true := by decide +kernel
theorem okA_1211 : lawA 1 2 1 1 = true := by decide +kernel
theorem okA_1212 : lawA 1 2 1 2 = true := by decide +kernel
end Mine
end

noncomputable section
set_option autoImplicit false
namespace Mine
open PySem PySem.W
open PyProof.Rows (AllBare StrsAre IntsAre News Fr)

theorem lawSt_2 (a1 a2 b1 b2 : Int) : lawSt 2 a1 a2 b1 b2 = lawSt 2 0 0 0 0 := by
  unfold lawSt
  rw [show numsA 2 a1 a2 b1 b2 = numsA 2 0 0 0 0 from rfl]
theorem lawSt_1 (a1 a2 b1 b2 : Int) : lawSt 1 a1 a2 b1 b2 = lawSt 1 0 0 0 0 := by
  unfold lawSt
  rw [show numsA 1 a1 a2 b1 b2 = numsA 1 0 0 0 0 from rfl]
theorem lawSt_3 (a1 a2 b1 b2 : Int) : lawSt 3 a1 a2 b1 b2 = lawSt 3 a1 0 b1 0 := by
  unfold lawSt
  rw [show numsA 3 a1 a2 b1 b2 = numsA 3 a1 0 b1 0 from rfl]
theorem lawOk_3 {m : Nat} {a1 a2 b1 b2 : Int} (hm : m = 1 ∨ m = 2 ∨ m = 3) (ha1 : 0 ≤ a1 ∧ a1 < 2) (hb1 : 0 ≤ b1 ∧ b1 < 2) : lawOk m a1 a2 b1 b2 = true := by
  rcases hm with rfl | rfl | rfl
  · have := ok1
    unfold lawOk at this ⊢
    rw [lawSt_1]; exact this
  · have := ok2
    unfold lawOk at this ⊢
    rw [lawSt_2]; exact this
  · have key : lawOk 3 a1 0 b1 0 = true := by
      have h1 : a1 = 0 ∨ a1 = 1 := by omega
      have h3 : b1 = 0 ∨ b1 = 1 := by omega
      clear ha1 hb1
      rcases h1 with rfl | rfl <;> rcases h3 with rfl | rfl
      · exact ok3_00
      · exact ok3_01
      · exact ok3_10
      · exact ok3_11
    have := key
    unfold lawOk at this ⊢
    rw [lawSt_3]; exact this
theorem lawA_all {a1 a2 b1 b2 : Int} (ha1 : 0 ≤ a1 ∧ a1 < 2) (ha2 : 0 ≤ a2 ∧ a2 < 3) (hb1 : 0 ≤ b1 ∧ b1 < 2) (hb2 : 0 ≤ b2 ∧ b2 < 3) : lawA a1 a2 b1 b2 = true ∧ lawB a1 a2 = true := by
  have h1 : a1 = 0 ∨ a1 = 1 := by omega
  have h2 : a2 = 0 ∨ a2 = 1 ∨ a2 = 2 := by omega
  have h3 : b1 = 0 ∨ b1 = 1 := by omega
  have h4 : b2 = 0 ∨ b2 = 1 ∨ b2 = 2 := by omega
  clear ha1 ha2 hb1 hb2
  rcases h1 with rfl | rfl <;> rcases h2 with rfl | rfl | rfl <;> rcases h3 with rfl | rfl <;> rcases h4 with rfl | rfl | rfl
  · exact ⟨okA_0000, okB_00⟩
  · exact ⟨okA_0001, okB_00⟩
  · exact ⟨okA_0002, okB_00⟩
  · exact ⟨okA_0010, okB_00⟩
  · exact ⟨okA_0011, okB_00⟩
  · exact ⟨okA_0012, okB_00⟩
  · exact ⟨okA_0100, okB_01⟩
  · exact ⟨okA_0101, okB_01⟩
  · exact ⟨okA_0102, okB_01⟩
  · exact ⟨okA_0110, okB_01⟩
  · exact ⟨okA_0111, okB_01⟩
  · exact ⟨okA_0112, okB_01⟩
  · exact ⟨okA_0200, okB_02⟩
  · exact ⟨okA_0201, okB_02⟩
  · exact ⟨okA_0202, okB_02⟩
  · exact ⟨okA_0210, okB_02⟩
  · exact ⟨okA_0211, okB_02⟩
  · exact ⟨okA_0212, okB_02⟩
  · exact ⟨okA_1000, okB_10⟩
  · exact ⟨okA_1001, okB_10⟩
  · exact ⟨okA_1002, okB_10⟩
  · exact ⟨okA_1010, okB_10⟩
  · exact ⟨okA_1011, okB_10⟩
  · exact ⟨okA_1012, okB_10⟩
  · exact ⟨okA_1100, okB_11⟩
  · exact ⟨okA_1101, okB_11⟩
  · exact ⟨okA_1102, okB_11⟩
  · exact ⟨okA_1110, okB_11⟩
  · exact ⟨okA_1111, okB_11⟩
  · exact ⟨okA_1112, okB_11⟩
  · exact ⟨okA_1200, okB_12⟩
  · exact ⟨okA_1201, okB_12⟩
  · exact ⟨okA_1202, okB_12⟩
  · exact ⟨okA_1210, okB_12⟩
  · exact ⟨okA_1211, okB_12⟩
  · exact ⟨okA_1212, okB_12⟩

theorem fmod_range (n : Int) (k : Nat) : 0 ≤ n.fmod (.ofNat (k + 1)) ∧ n.fmod (.ofNat (k + 1)) < (k + 1 : Nat) := by
  constructor
  · exact Int.fmod_nonneg_of_pos _ (by simp)
  · exact Int.fmod_lt_of_pos _ (by simp)

section
variable {prog : Program} {w : World} {fa : Nat → Addr} {T : Tab} {base : Addr → Option Obj} {A : Around} {E : Value → Shared → Prop} {s : Shared} {ρ : Map} {σ : St} {env : AEnv} {ce : Env} {k : Nat} {O : Ops}

theorem law_fin {h₀ : Heap} {mg mb : Str → Option Value} (X : (KF w.params).In h₀) (G : h₀.Ns mainGlobals mg) (Bn : h₀.Ns builtinsNs mb) (B : ∀ x : Str, x ≠ "__name__" → mb x = bootBuiltins x) (NL : h₀.NoLimit)
    (HC : ∀ e ∈ tabCheck, KOk prog w faN h₀.get? e)
    {L c1 c2 c3 c4 c5 c6 D : Addr} {S : Int} {mp : Str → Option Value} {mt : Tok} {ws : Array Value} {wn : Nat} {n0 n1 n2 n3 n4 n5 n6 n7 : Int}
    (keep : ∀ b o, h₀.get? b = some o → s.heap.get? b = some o) (hns : s.heap.Ns L mp) (hmp : ∀ x : Str, if x = ("script" : Str) then (mp x).isSome = true else mp x = none)
    (h1 : s.heap.IsCell c1 (some (.int (1 + S.fmod 4) mt))) (h2 : s.heap.IsCell c2 (some (.ref D))) (h3 : s.heap.IsCell c3 none) (h4 : s.heap.IsCell c4 none) (h5 : s.heap.IsCell c5 none) (h6 : s.heap.IsCell c6 none)
    (hD : s.heap.get? D = some (listObj ws wn)) (hw : IntsAre ws.toList [n0, n1, n2, n3, n4, n5, n6, n7])
    (hnew : ∀ a ∈ [L, c1, c2, c3, c4, c5, c6, D], h₀.get? a = none) (hdis : [L, c1, c2, c3, c4, c5, c6, D].Nodup)
    (hr : Room A 80) {stmts : List Stmt} (hst : stmts = lawBody) (hsc : ce.scope = lawInfo.scope) (hloc : ce.locals = L) (hg : ce.globals = mainGlobals) (hb : ce.builtins = builtinsNs)
    (hcells : ce.cells = ([("again", c6), ("words", c5), ("other", c4), ("one", c3), ("numbers", c2), ("many", c1)] : List (Str × Addr)))
    {Q : Flow → Shared → Prop} (hQ : ∀ s', Ok s s' → (∀ b o, h₀.get? b = some o → s'.heap.get? b = some o) → Q (.ret (.bool true)) s') : wpAny (model prog w) A (execs stmts ce) Q E s := by
  have SB := statB_of (prog := prog) X G Bn B NL
  have XO : XOk prog w faN T1 h₀.get? := xok_of (known_all SB HC) gl inf
  have SB1 : StatB prog w faN T1 h₀.get? := SB.ext (extL tab)
  obtain ⟨m, hm⟩ : ∃ m : Nat, 1 + S.fmod 4 = (m : Int) := ⟨(1 + S.fmod 4).toNat, by
    have := (fmod_range S 3).1
    have e : S.fmod 4 = S.fmod (.ofNat (3 + 1)) := rfl
    omega⟩
  have hm4 : (m = 1 ∨ m = 2 ∨ m = 3) ∨ m = 4 := by
    have h := fmod_range S 3
    have e : S.fmod 4 = S.fmod (.ofNat (3 + 1)) := rfl
    omega
  rw [hm] at h1
  have hRV : RVs faN (addrMap [L, c1, c2, c3, c4, c5, c6, D]) (numsA m (n1.fmod (.ofNat 2)) (n2.fmod (.ofNat 3)) (n5.fmod (.ofNat 2)) (n6.fmod (.ofNat 3))) ws.toList := by
    generalize ws.toList = vs at hw
    cases hw with | cons _ t0 hw => cases hw with | cons _ t1 hw => cases hw with | cons _ t2 hw => cases hw with | cons _ t3 hw => cases hw with | cons _ t4 hw => cases hw with | cons _ t5 hw => cases hw with | cons _ t6 hw => cases hw with | cons _ t7 hw =>
    cases hw
    have one : ∀ n : Int, n.fmod (.ofNat (0 + 1)) = 0 := fun n => by have := fmod_range n 0; omega
    exact .cons (res_is fun _ => one _) (.cons (res_is fun _ => rfl) (.cons (res_is fun _ => rfl) (.cons trivial (.cons (res_is fun _ => one _) (.cons (res_is fun _ => rfl) (.cons (res_is fun _ => rfl) (.cons trivial .nil)))))))
  have R := law_rep (fa := faN) keep hns hmp h1 h2 h3 h4 h5 h6 hD hRV hnew hdis
  have RE : REnv (addrMap [L, c1, c2, c3, c4, c5, c6, D]) lawEnv ce := by
    refine ⟨hsc, by kernel_rfl, by rw [hloc]; rfl, hg, hb, ?_⟩
    rw [hcells]
    exact .cons rfl (.cons rfl (.cons rfl (.cons rfl (.cons rfl (.cons rfl .nil)))))
  subst hst
  rcases hm4 with hm3 | rfl
  · have ok := lawOk_3 (a2 := n2.fmod (.ofNat 3)) (b2 := n6.fmod (.ofNat 3)) hm3 (fmod_range n1 1) (fmod_range n5 1)
    unfold lawOk at ok
    split at ok
    · rename_i σ' hrun
      refine (run_snd SB1 XO 20000).exs hrun hr R RE fun ρ' s' f' l o R' hf => ?_
      obtain ⟨v', rfl, rv⟩ := hf
      cases rv
      exact hQ s' o R'.keep
    · cases ok
  · obtain ⟨okA, okB⟩ := lawA_all (fmod_range n1 1) (fmod_range n2 2) (fmod_range n5 1) (fmod_range n6 2)
    unfold lawA at okA
    unfold lawB at okB
    split at okA
    · rename_i σ' hrun
      split at okB
      · rename_i σ'' hrun2
        rw [← List.take_append_drop 6 lawBody, execs_append]
        refine wpAny_bind ((run_snd SB1 XO 20000).exs hrun hr R RE fun ρ' s' f' l o R' hf => ?_)
        cases hf
        refine (run_snd SB1 XO 20000).exs hrun2 hr (R'.thin okA) (RE.mono l) fun ρ2 s2 f2 l2 o2 R2 hf2 => ?_
        obtain ⟨v', rfl, rv⟩ := hf2
        cases rv
        exact hQ s2 (o.trans o2) R2.keep
      · cases okB
    · cases okA
end
end Mine
end

noncomputable section
set_option autoImplicit false
namespace Mine
open PySem PySem.W
open PyProof.Rows (AllBare StrsAre IntsAre News Fr)

section
variable {prog : Program} {w : World} {fa : Nat → Addr} {T : Tab} {base : Addr → Option Obj} {A : Around} {E : Value → Shared → Prop} {s : Shared} {ρ : Map} {σ : St} {env : AEnv} {ce : Env} {k : Nat} {O : Ops}

theorem Rep.rebase {h : Heap} (R : Rep fa base ρ σ h) {base' : Addr → Option Obj} (k : ∀ b o, base' b = some o → h.get? b = some o) (own : ∀ i a, σ.live i → ρ i = some a → base' a = none) : Rep fa base' ρ σ h := ⟨R.obj, R.inj, R.lt, own, k⟩

/-- a store of one frame -/
def one (m : List (Str × AV)) : St := St.nil.push (.ns m)
def at1 (L : Addr) : Map := fun i => match i with | 0 => some L | _ => none
theorem at1_some {L : Addr} {i : Nat} {a : Addr} (e : at1 L i = some a) : i = 0 ∧ a = L := by
  unfold at1 at e
  split at e
  · cases e; exact ⟨rfl, rfl⟩
  · cases e
def flatV (a : AV) : Bool := match a with | .ref _ => false | _ => true
def flatM : List (Str × AV) → Bool
  | [] => true
  | p :: r => flatV p.2 && flatM r
theorem RV.flat {ρ' : Map} {a : AV} {v : Value} (h : flatV a = true) (r : RV fa ρ a v) : RV fa ρ' a v := by
  cases a <;> first | exact r | cases h
/-- values forgotten -/
inductive Blur : List (Str × AV) → List (Str × AV) → Prop
  | nil : Blur [] []
  | same {p r r'} : Blur r r' → Blur (p :: r) (p :: r')
  | any {x a r r'} : Blur r r' → Blur ((x, a) :: r) ((x, .any) :: r')
theorem Blur.refl : ∀ m, Blur m m
  | [] => .nil
  | _ :: r => .same (refl r)
theorem Blur.at {m m' : List (Str × AV)} (b : Blur m m') (f : flatM m' = true) {ρ' : Map} {x : Str} {v : Option Value} (h : RVo fa ρ (lk m x) v) : RVo fa ρ' (lk m' x) v := by
  induction b with
  | nil =>
    cases v with
    | none => trivial
    | some v => exact h.elim
  | @same p r r' _ ih =>
    rw [flatM, Bool.and_eq_true] at f
    unfold lk at h ⊢
    split at h
    · cases v with
      | none => exact h.elim
      | some v => exact RV.flat f.1 h
    · exact ih f.2 h
  | @any y a r r' _ ih =>
    rw [flatM, Bool.and_eq_true] at f
    unfold lk at h ⊢
    split at h
    · rename_i q
      have q' : sB x y = true := q
      show RVo fa ρ' (match sB x y with | true => some AV.any | false => lk r' x) v
      rw [q']
      cases v with
      | none => exact h.elim
      | some v => trivial
    · rename_i q
      have q' : sB x y = false := q
      show RVo fa ρ' (match sB x y with | true => some AV.any | false => lk r' x) v
      rw [q']
      exact ih f.2 h
theorem one_at {m : List (Str × AV)} {i : Nat} {o : AO} (e : (one m).at i = some o) : i = 0 ∧ o = .ns m := by
  unfold one at e
  rw [St.at_push] at e
  by_cases q : i = St.nil.n
  · rw [if_pos q] at e; cases e; exact ⟨q, rfl⟩
  · rw [if_neg q] at e; cases e
theorem one_rep {h : Heap} {L : Addr} {f : Str → Option Value} {m : List (Str × AV)} (n : h.Ns L f) (hx : ∀ x, RVo fa (at1 L) (lk m x) (f x)) (k : ∀ b o, base b = some o → h.get? b = some o) (own : base L = none) : Rep fa base (at1 L) (one m) h where
  obj i o e _ := by
    obtain ⟨rfl, rfl⟩ := one_at e
    obtain ⟨ob, g, ro⟩ := RO.of_ns (fa := fa) (ρ := at1 L) (m := m) n hx
    exact ⟨L, ob, rfl, g, ro⟩
  inj i j a _ _ e1 e2 := by rw [(at1_some e1).1, (at1_some e2).1]
  lt i a e := by rw [(at1_some e).1]; exact Nat.lt_succ_self _
  own i a _ e := by rw [(at1_some e).2]; exact own
  keep := k
/-- one frame out of a store -/
theorem Rep.solo {h : Heap} (R : Rep fa base ρ σ h) {i : Nat} {L : Addr} {m m' : List (Str × AV)} (e : σ.at i = some (.ns m)) (ea : ρ i = some L) (b : Blur m m') (f : flatM m' = true) : Rep fa base (at1 L) (one m') h := by
  obtain ⟨ob, g, es, ep, hd, hk, hx⟩ := R.getAt e ea
  exact one_rep ⟨ob, es, ep, g, hd, hk, fun _ => rfl⟩ (fun x => b.at f (hx x)) R.keep (R.own i L ⟨_, e, trivial⟩ ea)
theorem Rep.solo_keeps {h h' : Heap} {L : Addr} {m : List (Str × AV)} (R : Rep fa base (at1 L) (one m) h) (kL : ∀ o, h.get? L = some o → h'.get? L = some o) (k : ∀ b o, base b = some o → h'.get? b = some o) : Rep fa base (at1 L) (one m) h' where
  obj i o e l := by
    obtain ⟨a, ob, e1, e2, e3⟩ := R.obj i o e l
    have := (at1_some e1).2
    subst this
    exact ⟨a, ob, e1, kL _ e2, e3⟩
  inj := R.inj
  lt := R.lt
  own := R.own
  keep := k

/-! the generator's text, by its places -/
def p0 : Pos := ⟨0, 0, 0, 0⟩
def nthS (l : List Stmt) (i : Nat) : Stmt := match nth l i with | some x => x | none => .Pass p0
def e0 : Expr := .Name "x" p0
def forT (s : Stmt) : Expr := match s with | .For t _ _ _ _ => t | _ => e0
def forI (s : Stmt) : Expr := match s with | .For _ i _ _ _ => i | _ => e0
def forB (s : Stmt) : List Stmt := match s with | .For _ _ b _ _ => b | _ => []
def forP (s : Stmt) : Pos := match s with | .For _ _ _ _ p => p | _ => p0
def ifT (s : Stmt) : Expr := match s with | .If t _ _ _ => t | _ => e0
def ifB (s : Stmt) : List Stmt := match s with | .If _ b _ _ => b | _ => []
def ifO (s : Stmt) : List Stmt := match s with | .If _ _ b _ => b | _ => []
def ifP (s : Stmt) : Pos := match s with | .If _ _ _ p => p | _ => p0
def exE (s : Stmt) : Expr := match s with | .Expr e _ => e | _ => e0
def exP (s : Stmt) : Pos := match s with | .Expr _ p => p | _ => p0
def yiE (e : Expr) : Expr := match e with | .Yield (some x) _ => x | _ => e0
def yiP (e : Expr) : Pos := match e with | .Yield _ p => p | _ => p0
def tuE (e : Expr) : List Expr := match e with | .Tuple l _ _ => l | _ => []
def tuK (e : Expr) := match e with | .Tuple _ k _ => k | _ => 0
def tuP (e : Expr) : Pos := match e with | .Tuple _ _ p => p | _ => p0
def caF (e : Expr) : Expr := match e with | .Call f _ _ _ => f | _ => e0
def caA (e : Expr) : List Expr := match e with | .Call _ a _ _ => a | _ => []
def caP (e : Expr) : Pos := match e with | .Call _ _ _ p => p | _ => p0

theorem gen_is : (defAt PP 1 [] []).isSome = true := by kernel_rfl
def genInfo : FnInfo := (defAt PP 1 [] []).get gen_is
def gB : List Stmt := genInfo.body
def gEnv : AEnv := ⟨genInfo.scope, 0, []⟩
def gFor : Stmt := nthS gB 2
def gIf : Stmt := nthS (forB gFor) 0
def gElif : Stmt := nthS (ifO gIf) 0
def gY : Stmt := nthS (ifO gElif) 0
def gEnd : Stmt := nthS gB 3
theorem gB_is : gB = [nthS gB 0, nthS gB 1, .For (.Tuple (tuE (forT gFor)) (tuK (forT gFor)) (tuP (forT gFor))) (forI gFor) [.If (ifT gIf) (ifB gIf) [.If (ifT gElif) (ifB gElif) [.Expr (.Yield (some (yiE (exE gY))) (yiP (exE gY))) (exP gY)] (ifP gElif)] (ifP gIf)] [] (forP gFor), .If (ifT gEnd) (ifB gEnd) [] (ifP gEnd)] := by kernel_rfl
theorem gI_is : forI gFor = .Call (caF (forI gFor)) (caA (forI gFor)) [] (caP (forI gFor)) := by kernel_rfl
def mA (x : Str) : List (Str × AV) := [("addr", .str x)]
def mG0 (x : Str) : List (Str × AV) := [("addr", .str x), ("pos", .int 0), ("escape", .bool false)]
def mG (x : Str) (p : AV) (c : AV) : List (Str × AV) := [("addr", .str x), ("pos", p), ("escape", .bool false), ("ch", c)]
def stOf {α : Type} (r : Option (α × St)) : St := match r with | some (_, σ) => σ | none => .nil
def stO (r : Option St) : St := match r with | some σ => σ | none => .nil
def chr (c : Nat) : AV := .str ⟨#[c]⟩
def G0 : Ops := run T0 60
theorem g_enum (x : Str) : G0.ev 12 (caF (forI gFor)) gEnv (one (mG0 x)) = some (.fn .enum, one (mG0 x)) := by kernel_rfl
theorem g_addr (x : Str) : evL (fun e σ => G0.ev 12 e gEnv σ) (caA (forI gFor)) (one (mG0 x)) = some ([.str x], one (mG0 x)) := by kernel_rfl
def stT (x : Str) (m : List (Str × AV)) (i : Int) (c : Nat) : St := (one m).push (.tup [.int i, chr c])
def gT : Expr := .Tuple (tuE (forT gFor)) (tuK (forT gFor)) (tuP (forT gFor))
theorem g_asg0 (x : Str) (i : Int) (c : Nat) : assignA gT gEnv (.ref 1) (stT x (mG0 x) i c) = some (stO (assignA gT gEnv (.ref 1) (stT x (mG0 x) i c))) := by kernel_rfl
theorem g_asg0_at (x : Str) (i : Int) (c : Nat) : (stO (assignA gT gEnv (.ref 1) (stT x (mG0 x) i c))).at 0 = some (.ns (mG x (.int i) (chr c))) := by kernel_rfl
theorem g_asg1 (x : Str) (i : Int) (c : Nat) : assignA gT gEnv (.ref 1) (stT x (mG x .any .any) i c) = some (stO (assignA gT gEnv (.ref 1) (stT x (mG x .any .any) i c))) := by kernel_rfl
theorem g_asg1_at (x : Str) (i : Int) (c : Nat) : (stO (assignA gT gEnv (.ref 1) (stT x (mG x .any .any) i c))).at 0 = some (.ns (mG x (.int i) (chr c))) := by kernel_rfl
theorem g_if (x : Str) (c : AV) : G0.tr 12 (ifT gIf) gEnv (one (mG x .any c)) = some (false, one (mG x .any c)) := by kernel_rfl
theorem g_elif0 (x : Str) : G0.tr 12 (ifT gElif) gEnv (one (mG x .any (chr 40))) = some (false, one (mG x .any (chr 40))) := by kernel_rfl
theorem g_elif1 (x : Str) : G0.tr 12 (ifT gElif) gEnv (one (mG x .any (chr 41))) = some (false, one (mG x .any (chr 41))) := by kernel_rfl
theorem g_yield (x : Str) (c : AV) : G0.ev 12 (yiE (exE gY)) gEnv (one (mG x .any c)) = some (.ref 1, (one (mG x .any c)).push (.tup [.any, c])) := by kernel_rfl
theorem g_end0 (x : Str) : G0.tr 12 (ifT gEnd) gEnv (one (mG0 x)) = some (false, one (mG0 x)) := by kernel_rfl
theorem g_end1 (x : Str) : G0.tr 12 (ifT gEnd) gEnv (one (mG x .any .any)) = some (false, one (mG x .any .any)) := by kernel_rfl
end
end Mine
end

noncomputable section
set_option autoImplicit false
namespace Mine
open PySem PySem.W
open PyProof.Rows (AllBare StrsAre IntsAre News Fr)

/-- all but one object stands -/
structure Kb (own : Addr → Prop) (a b : Shared) : Prop where
  keep : ∀ c o, ¬ own c → a.heap.get? c = some o → b.heap.get? c = some o
  ok : Ok a b
theorem Kb.refl (own : Addr → Prop) (a : Shared) : Kb own a a := ⟨fun _ _ _ e => e, .refl _⟩
theorem Kb.trans {own : Addr → Prop} {a b c : Shared} (x : Kb own a b) (y : Kb own b c) : Kb own a c := ⟨fun d o n e => y.keep d o n (x.keep d o n e), x.ok.trans y.ok⟩
theorem Kb.weak {own own' : Addr → Prop} {a b : Shared} (x : Kb own a b) (w : ∀ c, own c → own' c) : Kb own' a b := ⟨fun c o n e => x.keep c o (fun z => n (w c z)) e, x.ok⟩

section
variable {prog : Program} {w : World} {fa : Nat → Addr} {T : Tab} {base : Addr → Option Obj} {A : Around} {E : Value → Shared → Prop} {s : Shared} {ρ : Map} {σ : St} {env : AEnv} {ce : Env} {k : Nat} {O : Ops}

abbrev Fr1 (L : Addr) (m : List (Str × AV)) (h : Heap) : Prop := Rep faN (fun _ => none) (at1 L) (one m) h
theorem Fr1.keeps {L : Addr} {m : List (Str × AV)} {h h' : Heap} (R : Fr1 L m h) (k : ∀ o, h.get? L = some o → h'.get? L = some o) : Fr1 L m h' := Rep.solo_keeps R k fun _ _ e => by cases e
/-- what else stands, as a base -/
def butL (h : Heap) (L : Addr) : Addr → Option Obj := fun b => if b = L then none else h.get? b
theorem Fr1.over {L : Addr} {m : List (Str × AV)} {h : Heap} (R : Fr1 L m h) : Rep faN (butL h L) (at1 L) (one m) h :=
  R.rebase (fun b o e => by unfold butL at e; split at e; · cases e
                            · exact e) fun i a _ e => by rw [(at1_some e).2]; exact if_pos rfl
theorem butL_kb {L : Addr} {s s' : Shared} {ρ : Map} {σ : St} (o : Ok s s') (R : Rep faN (butL s.heap L) ρ σ s'.heap) : Kb (· = L) s s' :=
  ⟨fun c ob n e => R.keep c ob (by unfold butL; rw [if_neg n]; exact e), o⟩
theorem butL_snd {L : Addr} {h : Heap} (SB : StatB prog w faN T0 base) (P : ∀ b o, base b = some o → h.get? b = some o) (bL : base L = none) (n : Nat) : Snd prog w faN (butL h L) (run T0 n) :=
  noX (SB.over fun b o e => by
    have q : b ≠ L := fun q => by rw [q, bL] at e; cases e
    unfold butL; rw [if_neg q]; exact P b o e) n
/-- the frame again, after a run -/
theorem Fr1.again {L : Addr} {m m' : List (Str × AV)} {base' : Addr → Option Obj} {h : Heap} {ρ : Map} (R : Rep faN base' ρ σ h) (e : σ.at 0 = some (.ns m)) (l : (at1 L).Le ρ) (b : Blur m m') (f : flatM m' = true) : Fr1 L m' h :=
  (R.solo e (l _ _ rfl) b f).rebase (fun _ _ e => by cases e) fun _ _ _ _ => rfl

theorem fr_tr {L : Addr} {m : List (Str × AV)} {t : Expr} {b : Bool} {genv : Env} {Q : Bool → Shared → Prop} (SB : StatB prog w faN T0 base) (P : ∀ b o, base b = some o → s.heap.get? b = some o) (bL : base L = none)
    (hrun : G0.tr 12 t env (one m) = some (b, one m)) (hf : flatM m = true) (hr : Room A 12) (R : Fr1 L m s.heap) (RE : REnv (at1 L) env genv) (h : ∀ s', Kb (· = L) s s' → Fr1 L m s'.heap → Q b s') : wpAny (model prog w) A (isTrue t genv (eval t genv)) Q E s :=
  (butL_snd SB P bL 60).tr hrun hr R.over RE fun ρ' s' l o R' => h s' (butL_kb o R') (Fr1.again R' rfl l (Blur.refl _) hf)
theorem fr_exs {L : Addr} {m m1 m' : List (Str × AV)} {l : List Stmt} {σ' : St} {genv : Env} {Q : Flow → Shared → Prop} (SB : StatB prog w faN T0 base) (P : ∀ b o, base b = some o → s.heap.get? b = some o) (bL : base L = none)
    (hrun : G0.exs 12 l env (one m) = some (.next, σ')) (hat : σ'.at 0 = some (.ns m1)) (hb : Blur m1 m') (hf : flatM m' = true) (hr : Room A 12) (R : Fr1 L m s.heap) (RE : REnv (at1 L) env genv) (h : ∀ s', Kb (· = L) s s' → Fr1 L m' s'.heap → Q .next s') : wpAny (model prog w) A (execs l genv) Q E s :=
  (butL_snd SB P bL 60).exs hrun hr R.over RE fun ρ' s' f' l o R' hf' => by
    cases hf'
    exact h s' (butL_kb o R') (Fr1.again R' hat l hb hf)
end

/-! a frame and one more -/
def at2 (L ta : Addr) : Map := fun i => match i with | 0 => some L | 1 => some ta | _ => none
theorem at2_some {L ta : Addr} {i : Nat} {a : Addr} (e : at2 L ta i = some a) : (i = 0 ∧ a = L) ∨ (i = 1 ∧ a = ta) := by
  unfold at2 at e
  split at e
  · cases e; exact .inl ⟨rfl, rfl⟩
  · cases e; exact .inr ⟨rfl, rfl⟩
  · cases e
theorem at1_le (L ta : Addr) : (at1 L).Le (at2 L ta) := fun i a e => by
  obtain ⟨rfl, rfl⟩ := at1_some e
  rfl
def but2 (h : Heap) (L ta : Addr) : Addr → Option Obj := fun b => if b = L ∨ b = ta then none else h.get? b
theorem two_rep {h : Heap} {L ta : Addr} {m : List (Str × AV)} {o' : AO} {ob : Obj} (F : Fr1 L m h) (g : h.get? ta = some ob) (ne : L ≠ ta) (ro : RO faN (at2 L ta) ob o') : Rep faN (but2 h L ta) (at2 L ta) ((one m).push o') h where
  obj i o q lv := by
    rcases push_cases q with ⟨rfl, rfl⟩ | q
    · exact ⟨ta, ob, rfl, g, ro⟩
    · obtain ⟨a, ob1, q1, q2, q3⟩ := F.obj i o q lv
      exact ⟨a, ob1, at1_le L ta _ _ q1, q2, q3.mono (at1_le L ta)⟩
  inj i j a _ _ q1 q2 := by
    rcases at2_some q1 with ⟨rfl, rfl⟩ | ⟨rfl, rfl⟩ <;> rcases at2_some q2 with ⟨rfl, z⟩ | ⟨rfl, z⟩
    · rfl
    · exact absurd z ne
    · exact absurd z.symm ne
    · rfl
  lt i a q := by
    rcases at2_some q with ⟨rfl, _⟩ | ⟨rfl, _⟩
    · exact Nat.zero_lt_succ _
    · exact Nat.lt_succ_self _
  own i a _ q := by
    unfold but2
    rcases at2_some q with ⟨_, rfl⟩ | ⟨_, rfl⟩
    · rw [if_pos (.inl rfl)]
    · rw [if_pos (.inr rfl)]
  keep b o q := by
    unfold but2 at q
    split at q
    · cases q
    · exact q

/-! the generator -/
structure GH (x : Str) (t : Tok) (L e it : Addr) (m : List (Str × AV)) (i : Nat) (h : Heap) : Prop where
  fr : Fr1 L m h
  en : ∃ old, IsEnum h e it i old
  si : h.IsStrIter it "str_ascii_iterator" x t i
def gOwn (L e it : Addr) (b : Addr) : Prop := b = L ∨ b = e ∨ b = it
theorem GH.keeps {x : Str} {t : Tok} {L e it : Addr} {m : List (Str × AV)} {i : Nat} {h h' : Heap} (G : GH x t L e it m i h) (k : ∀ b o, gOwn L e it b → h.get? b = some o → h'.get? b = some o) : GH x t L e it m i h' := by
  obtain ⟨old, he⟩ := G.en
  obtain ⟨o, ho, r⟩ := G.si
  exact ⟨G.fr.keeps fun o => k L o (.inl rfl), ⟨old, k e _ (.inr (.inl rfl)) he⟩, ⟨o, k it o (.inr (.inr rfl)) ho, r⟩⟩
structure GP (x : Str) (L e it : Addr) : Prop where
  le : L ≠ e
  li : L ≠ it
  ei : e ≠ it
  as : x.cps.all (· < 128) = true
  cs : ∀ i c : Nat, x.cps[i]? = some c → c = 40 ∨ c = 41
def gR (L e it : Addr) : GenEnd := fun n s₀ r s' => r = .ok (.ret .none) ∧ n = 0 ∧ Kb (gOwn L e it) s₀ s'
def gYP (base : Addr → Option Obj) (x : Str) (t : Tok) (L e it : Addr) : Protocol := fun n s₀ v s' kap =>
  ∃ (i c : Nat) (ta : Addr) (p : Value) (tk : Tok) (nn : Nat), x.cps[i]? = some c ∧ i + n + 1 = x.cps.size ∧ v = .ref ta ∧ s'.heap.get? ta = some (tupObj #[p, .str ⟨#[c]⟩ tk] nn) ∧ s₀.heap.get? ta = none ∧
    Kb (gOwn L e it) s₀ s' ∧ GH x t L e it (mG x .any .any) (i + 1) s'.heap ∧
    ∀ s'', GH x t L e it (mG x .any .any) (i + 1) s''.heap → (∀ b o, base b = some o → s''.heap.get? b = some o) → kap (.send .none) s''

section
variable {prog : Program} {w : World} {base : Addr → Option Obj} {A : Around} {fs : List Frame} {genv : Env} {x : Str} {t : Tok} {L e it : Addr}
theorem yield_at (x : Str) (c : AV) : ((one (mG x .any c)).push (.tup [.any, c])).at 1 = some (.tup [.any, c]) := by rw [St.at_push]; exact if_pos rfl
theorem yield_at0 (x : Str) (c : AV) : ((one (mG x .any c)).push (.tup [.any, c])).at 0 = some (.ns (mG x .any c)) := by
  rw [St.at_push, if_neg (show ¬ 0 = (one (mG x .any c)).n from Nat.zero_ne_one)]
  unfold one
  rw [St.at_push]; exact if_pos rfl
def gBody : List Stmt := [.If (ifT gIf) (ifB gIf) [.If (ifT gElif) (ifB gElif) [.Expr (.Yield (some (yiE (exE gY))) (yiP (exE gY))) (exP gY)] (ifP gElif)] (ifP gIf)]

theorem segLoop (SB : StatB prog w faN T0 base) (bL : base L = none) (be : base e = none) (bi : base it = none) (gp : GP x L e it) (RE : REnv (at1 L) gEnv genv) (hco : genv.scope.isCoroutine = false)
    (hfs : splitAtGen fs = none) (hfg : fs.any Frame.guarded = false) (hr : Room (A.over (.forLoop gT (.ref e) gBody [] genv) fs) 13)
    (hEnd : ∀ s₀ c s' m, (m = mG0 x ∨ m = mG x .any .any) → Fr1 L m s'.heap → (∀ b o, base b = some o → s'.heap.get? b = some o) → Kb (gOwn L e it) s₀ s' → Seg (model prog w) A (gR L e it) (gYP base x t L e it) 0 s₀ c (leafOf (.ok .next)) fs s') :
    ∀ (n : Nat) (s₀ s : Shared) (m : List (Str × AV)) (i : Nat), i + n = x.cps.size → (m = mG0 x ∨ m = mG x .any .any) → GH x t L e it m i s.heap → Kb (gOwn L e it) s₀ s → (∀ b o, base b = some o → s.heap.get? b = some o) →
      Seg (model prog w) A (gR L e it) (gYP base x t L e it) n s₀ (.forLoop gT (.ref e) gBody [] genv) ((model prog w).den (.forLoop gT (.ref e) gBody [] genv)) fs s := by
  intro n
  induction n with
  | zero =>
    intro s₀ s m i hi hm G K P
    show Seg _ A _ _ _ s₀ _ ((forTurn gT (.ref e) gBody [] genv).onRaise (fun x => do noteFrame x genv; theTreesLotGoes x)) fs s
    unfold forTurn
    rw [Sem.onRaise_eq_wrap, Sem.bind_eq_wrap', Sem.wrap_wrap]
    refine seg_wrap (wpAny_standAt ?_)
    rw [Sem.bind_eq_wrap', Sem.wrap_wrap]
    refine seg_wrap (wpAny_onRaise ?_)
    obtain ⟨old, he⟩ := G.en
    have D := Draws.strAscii (prog := prog) (w := w) (A := (A.over (.forLoop gT (.ref e) gBody [] genv) fs).in1) hr.1 it x t
    have hi' : i = x.cps.size := by omega
    subst hi'
    refine wpAny_pyNext_enum_endD D he G.si fun h' hx => ?_
    have kx : ∀ b o, b ≠ it → s.heap.get? b = some o → h'.get? b = some o := fun b o n z => hx b o n z
    refine seg_again rfl ?_
    refine hEnd s₀ _ _ m hm (G.fr.keeps fun o z => kx L o gp.li z) (fun b o z => kx b o (fun q => by rw [q, bi] at z; cases z) (P b o z)) (K.trans ⟨fun c o n z => kx c o (fun q => n (.inr (.inr q))) z, .heap _ _⟩)
  | succ n ih =>
    intro s₀ s m i hi hm G K P
    show Seg _ A _ _ _ s₀ _ ((forTurn gT (.ref e) gBody [] genv).onRaise (fun x => do noteFrame x genv; theTreesLotGoes x)) fs s
    unfold forTurn
    rw [Sem.onRaise_eq_wrap, Sem.bind_eq_wrap', Sem.wrap_wrap]
    refine seg_wrap (wpAny_standAt ?_)
    rw [Sem.bind_eq_wrap', Sem.wrap_wrap]
    refine seg_wrap (wpAny_onRaise ?_)
    obtain ⟨old, he⟩ := G.en
    have D := Draws.strAscii (prog := prog) (w := w) (A := (A.over (.forLoop gT (.ref e) gBody [] genv) fs).in1) hr.1 it x t
    have hlt : i < x.cps.size := by omega
    refine wpAny_pyNext_enum_itemD D he G.si hlt gp.ei (by simpa using gp.ei) fun y h1 tk hP ho hs1 hT hsz hk1 => ?_
    obtain ⟨c, u, hc, rfl⟩ := hP
    have heL : e < s.heap.objs.size := Heap.lt_size he
    have hLs : ∃ o, s.heap.get? L = some o := by
      obtain ⟨a, ob, q1, q2, _⟩ := G.fr.obj 0 _ rfl trivial
      cases q1
      exact ⟨ob, q2⟩
    have hLlt : L < s.heap.objs.size := by obtain ⟨o, q⟩ := hLs; exact Heap.lt_size q
    -- the owned tuple
    show Seg _ A _ _ _ s₀ _ ((letOwnedTupleGo gT (.ref e) (.ref s.heap.objs.size) >>= fun _ => assign gT genv (.ref s.heap.objs.size) >>= fun _ => execs gBody genv >>= fun f => match f with
      | .next | .cont => again (.forLoop gT (.ref e) gBody [] genv)
      | .brk => pure (.done .next)
      | .ret v => pure (.done (.ret v))).wrap _ _ _ _) fs _
    rw [Sem.bind_eq_wrap', Sem.wrap_wrap]
    refine seg_wrap (wpAny_letOwnedTupleGo_enum ho fun h2 he2 hs2 => ?_)
    replace hs2 : Heap.SameBut e h1 h2 := hs2
    have k12 : ∀ b o, b ≠ e → h1.get? b = some o → h2.get? b = some o := fun b o n z => hs2.extBut b o n z
    have ht2 : h2.get? s.heap.objs.size = some (tupObj #[.int i tk, .str ⟨#[c]⟩ u] 0) := k12 _ _ (Nat.ne_of_gt heL) hT
    have ks2 : ∀ b o, b ≠ e → b ≠ it → s.heap.get? b = some o → h2.get? b = some o := fun b o n1 n2 z => k12 b o n1 (hk1 b o n1 n2 z)
    have F2 : Fr1 L m h2 := G.fr.keeps fun o z => ks2 L o gp.le gp.li z
    have hLt : L ≠ s.heap.objs.size := Nat.ne_of_lt hLlt
    have R2 : Rep faN (but2 h2 L s.heap.objs.size) (at2 L s.heap.objs.size) (stT x m i c) h2 := two_rep F2 ht2 hLt ⟨_, _, rfl, .cons ⟨tk, rfl⟩ (.cons ⟨u, rfl⟩ .nil)⟩
    obtain ⟨σ3, hasg, hat3⟩ : ∃ σ3, assignA gT gEnv (.ref 1) (stT x m i c) = some σ3 ∧ σ3.at 0 = some (.ns (mG x (.int i) (chr c))) := by
      rcases hm with rfl | rfl
      · exact ⟨_, g_asg0 x i c, g_asg0_at x i c⟩
      · exact ⟨_, g_asg1 x i c, g_asg1_at x i c⟩
    show Seg _ A _ _ _ s₀ _ ((assign gT genv (.ref s.heap.objs.size) >>= fun _ => execs gBody genv >>= fun f => match f with
      | .next | .cont => again (.forLoop gT (.ref e) gBody [] genv)
      | .brk => pure (.done .next)
      | .ret v => pure (.done (.ret v))).wrap _ _ _ _) fs _
    rw [Sem.bind_eq_wrap', Sem.wrap_wrap]
    refine seg_wrap (assign_snd (s := { s with heap := h2, toks := tk + 1 }) hr R2 (RE.mono (at1_le L _)) hasg ⟨_, rfl, rfl⟩ fun s3 o3 R3 => ?_)
    have F3 : Fr1 L (mG x .any (chr c)) s3.heap := Fr1.again R3 hat3 (at1_le L _) (.same (.any (.same (.same .nil)))) rfl
    have k23 : ∀ b o, b ≠ L → b ≠ s.heap.objs.size → h2.get? b = some o → s3.heap.get? b = some o := fun b o n1 n2 z => R3.keep b o (by unfold but2; rw [if_neg (by rintro (q | q); exact n1 q; exact n2 q)]; exact z)
    have G3 : GH x t L e it (mG x .any (chr c)) (i + 1) s3.heap := by
      obtain ⟨o, q, r⟩ := hs1
      have hil : it < s.heap.objs.size := by obtain ⟨o, q, _⟩ := G.si; exact Heap.lt_size q
      exact ⟨F3, ⟨_, k23 e _ (Ne.symm gp.le) (Nat.ne_of_lt heL) he2⟩, ⟨o, k23 it o (Ne.symm gp.li) (Nat.ne_of_lt hil) (k12 it o (Ne.symm gp.ei) q), r⟩⟩
    have K3 : Kb (gOwn L e it) s₀ s3 := K.trans ⟨fun b o n z => k23 b o (fun q => n (.inl q)) (Nat.ne_of_lt (Heap.lt_size z)) (ks2 b o (fun q => n (.inr (.inl q))) (fun q => n (.inr (.inr q))) z), Ok.trans (.toks _ _ _) o3⟩
    have P3 : ∀ b o, base b = some o → s3.heap.get? b = some o := fun b o z =>
      k23 b o (fun q => by rw [q, bL] at z; cases z) (Nat.ne_of_lt (Heap.lt_size (P b o z))) (ks2 b o (fun q => by rw [q, be] at z; cases z) (fun q => by rw [q, bi] at z; cases z) (P b o z))
    clear R3 R2 ht2 hT
    show Seg _ A _ _ _ s₀ _ ((execs gBody genv >>= fun f => match f with
      | .next | .cont => again (.forLoop gT (.ref e) gBody [] genv)
      | .brk => pure (.done .next)
      | .ret v => pure (.done (.ret v))).wrap _ _ _ _) fs _
    rw [Sem.bind_eq_wrap', Sem.wrap_wrap]
    unfold gBody
    refine seg_execs_cons ?_
    rw [exec_If, Sem.bind_eq_wrap', Sem.wrap_wrap]
    refine seg_wrap (wpAny_standAt ?_)
    rw [Sem.bind_eq_wrap', Sem.wrap_wrap]
    have hr' : Room (A.over (.forLoop gT (.ref e) gBody [] genv) fs) 12 := hr.less (by decide)
    refine seg_wrap (fr_tr SB P3 bL (g_if x (chr c)) rfl hr' F3 RE fun s4 k4 F4 => ?_)
    rw [if_neg Bool.false_ne_true]
    refine seg_execs_cons ?_
    rw [exec_If, Sem.bind_eq_wrap', Sem.wrap_wrap]
    refine seg_wrap (wpAny_standAt ?_)
    rw [Sem.bind_eq_wrap', Sem.wrap_wrap]
    have P4 : ∀ b o, base b = some o → s4.heap.get? b = some o := fun b o z => k4.keep b o (fun q => by rw [q, bL] at z; cases z) (P3 b o z)
    have hel : G0.tr 12 (ifT gElif) gEnv (one (mG x .any (chr c))) = some (false, one (mG x .any (chr c))) := by
      rcases gp.cs i c hc with rfl | rfl
      · exact g_elif0 x
      · exact g_elif1 x
    refine seg_wrap (fr_tr SB P4 bL hel rfl hr' F4 RE fun s5 k5 F5 => ?_)
    rw [if_neg Bool.false_ne_true]
    refine seg_execs_cons ?_
    have P5 : ∀ b o, base b = some o → s5.heap.get? b = some o := fun b o z => k5.keep b o (fun q => by rw [q, bL] at z; cases z) (P4 b o z)
    have k35 := k4.trans k5
    have K5 : Kb (gOwn L e it) s₀ s5 := K3.trans (k35.weak fun _ q => .inl q)
    have G5 : GH x t L e it (mG x .any (chr c)) (i + 1) s5.heap := by
      obtain ⟨old, q⟩ := G3.en
      obtain ⟨o, q2, r⟩ := G3.si
      exact ⟨F5, ⟨old, k35.keep e _ (Ne.symm gp.le) q⟩, ⟨o, k35.keep it o (Ne.symm gp.li) q2, r⟩⟩
    refine seg_Expr_Yield hfs rfl hfg ?_ hco (no_interactive RE)
    refine (butL_snd SB P5 bL 60).ev (g_yield x (chr c)) hr' F5.over RE fun ρ6 v6 s6 l6 o6 R6 rv6 => ?_
    intro kap hkap
    obtain ⟨ta, ea, rfl⟩ := rv6
    obtain ⟨ob, gt, vs, nn, rfl, rr⟩ := R6.getAt (i := 1) (o := .tup [.any, chr c]) (yield_at x (chr c)) ea
    have k6 := butL_kb o6 R6
    have hvs : ∃ p tk2, vs = #[p, .str ⟨#[c]⟩ tk2] := by
      generalize hq : vs.toList = l at rr
      cases rr with
      | cons _ rr =>
        cases rr with
        | cons r2 rr =>
          cases rr
          obtain ⟨tk2, rfl⟩ := r2
          exact ⟨_, tk2, Array.ext' (by rw [hq])⟩
    obtain ⟨p, tk2, rfl⟩ := hvs
    have F6 : Fr1 L (mG x .any .any) s6.heap := Fr1.again R6 rfl l6 (.same (.same (.same (.any .nil)))) rfl
    have hnew5 : ta ≠ L ∧ s5.heap.get? ta = none := by
      have h1 := R6.own 1 ta ⟨_, yield_at x (chr c), trivial⟩ ea
      have hne : ta ≠ L := fun q => by
        subst q
        have := R6.inj 1 0 ta ⟨_, yield_at x (chr c), trivial⟩ ⟨_, yield_at0 x (chr c), trivial⟩ ea (l6 _ _ rfl)
        cases this
      unfold butL at h1
      rw [if_neg hne] at h1
      exact ⟨hne, h1⟩
    have hnew : s₀.heap.get? ta = none := by
      cases q : s₀.heap.get? ta with
      | none => rfl
      | some o =>
        exfalso
        by_cases own : gOwn L e it ta
        · rcases own with z | z | z
          · exact hnew5.1 z
          · obtain ⟨old, q2⟩ := G5.en
            have q4 : s5.heap.get? e = some _ := q2
            rw [← z, hnew5.2] at q4; cases q4
          · obtain ⟨o2, q2, _⟩ := G5.si
            rw [← z, hnew5.2] at q2; cases q2
        · have := K5.keep ta o own q
          rw [hnew5.2] at this; cases this
    refine ⟨i, c, ta, p, tk2, nn, hc, by omega, rfl, gt, hnew, K5.trans (k6.weak fun _ q => .inl q), ⟨F6, ?_, ?_⟩, fun s7 G7 P7 => ?_⟩
    · obtain ⟨old, q⟩ := G5.en
      exact ⟨old, k6.keep e _ (Ne.symm gp.le) q⟩
    · obtain ⟨o, q2, r⟩ := G5.si
      exact ⟨o, k6.keep it o (Ne.symm gp.li) q2, r⟩
    · refine hkap .none s7 ?_
      show Seg _ A _ _ n s7 _ (.pure (.again (.forLoop gT (.ref e) gBody [] genv))) fs s7
      exact seg_again rfl (ih s7 s7 _ (i + 1) (by omega) (.inr rfl) G7 (.refl _ _) P7)
end
end Mine
end

noncomputable section
set_option autoImplicit false
namespace Mine
open PySem PySem.W
open PyProof.Rows (AllBare StrsAre IntsAre News Fr)

section
variable {M : Model} {A : Around} {c : Code} {fs : List Frame} {P : End → Shared → Prop} {s : Shared}
theorem sx_wrap {α : Type} {m : Sem α} {K : α → Sem Fin} {H : Value → Sem Fin} {gd lv}
    (h : wpAny M (A.over c fs) m (fun a s' => X.SegX M A c (K a) fs s' P) (fun x s' => X.SegX M A c (H x) fs s' P) s) : X.SegX M A c (m.wrap K H gd lv) fs s P := by
  rintro Γ p rfl hΓ
  obtain ⟨e, s', hr, hq⟩ := runs_wrap_of_wp (Φ := fun e s' => e.quiet = true ∧ P e s') K H gd lv m (h (Γ.over fs) p (hΓ.over fs)) (fun a p' s' h' => h' Γ p' rfl hΓ) (fun x p' s' h' => h' Γ p' rfl hΓ)
  exact ⟨e, s', hr, hq⟩
theorem sx_of_seg {R : GenEnd} {Y : Protocol} {n : Nat} {s₀ : Shared} {t : Sem Fin} (h : Seg M A R Y n s₀ c t fs s) : X.SegX M A c t fs s (SegEnd R Y n (Seg.next M A R Y n) s₀) := by
  intro Γ p hc hΓ
  obtain ⟨e, s', hr, he⟩ := seg_iff.mp h Γ p hc hΓ
  refine ⟨e, s', hr, ?_, he⟩
  cases e with
  | ret _ => rfl
  | susp v g l k c p fs => exact he.1
end

section
variable {prog : Program} {w : World} {base : Addr → Option Obj} {A : Around} {E : Value → Shared → Prop} {fs : List Frame} {s : Shared}

/-- a generator wakes: it yields or ends -/
def Wk (prog : Program) (w : World) (A : Around) (s : Shared) (g : Nat) (Yd : Value → Shared → Prop) (Nd : Shared → Prop) : Prop :=
  ∀ {α : Type} (k : GenResult → Sem α) (Q : α → Shared → Prop) (E : Value → Shared → Prop), (∀ v s', Yd v s' → wpAny (model prog w) A (k (.yielded v)) Q E s') → (∀ s', Nd s' → wpAny (model prog w) A (k (End.ret (.ok (.ret .none))).result) Q E s') →
    wpAny (model prog w) A (.resume g (.send .none) [] k) Q E s

theorem pyNext_fn {a : Addr} {g : Nat} {gs : GenState} {Yd : Value → Shared → Prop} {Nd : Shared → Prop} {Q : Option Value → Shared → Prop} (hh : A.handled = none) (hl : s.heap.NoLimit) (hroom : A.depth < recursionLimit) (hg : s.heap.IsGen a g) (hgs : s.gens[g]? = some gs)
    (hst : (∃ c, gs = .fresh c) ∨ ∃ k l c p f cl, gs = .suspended k l c p f cl) (wk : Wk prog w A.in1 s g Yd Nd) (hY : ∀ v s', Yd v s' → Q (some v) s') (hN : ∀ s', Nd s' → ∀ h', (∀ b o, s'.heap.get? b = some o → h'.get? b = some o) → Q none { s' with heap := h' }) :
    wpAny (model prog w) A (pyNext (.ref a)) Q E s := by
  unfold pyNext
  refine wpAny_bind (wpAny_attempt (wpAny_callSpecial?_slot (name := Str.ofString "__next__") hg.typeIs slot_gen_next (wpAny_call_entry slot_gen_next hg.typeIs entry_gen_next ?_ (args_gen_next _))))
  show wpAny _ _ (Builtin.Generator.genWake (.ref a) (.send .none)) _ _ s
  unfold Builtin.Generator.genWake
  refine wpAny_bind (wpAny_holding (wpAny_genNumber hg (wpAny_bind (wpAny_genState hgs ?_))))
  have go : ∀ gs', gs' = gs → ((∃ c, gs' = .fresh c) ∨ ∃ k l c p f cl, gs' = .suspended k l c p f cl) → True := fun _ _ _ => trivial
  clear go
  rcases hst with ⟨c, rfl⟩ | ⟨k, l, c, p, f, cl, rfl⟩
  all_goals
    refine wpAny_bind (wpAny_roomToWake hl hroom ?_)
    show wpAny _ _ (.resume g (.send .none) [] _) _ _ s
    refine wk _ _ _ (fun v s' hy => ?_) (fun s' hn => ?_)
    · exact wpAny_pure ⟨v, rfl, wpAny_pure (hY v s' hy)⟩
    · show wpAny _ _ (newExc (.type "StopIteration") [] >>= _) _ _ _
      refine wpAny_bind ?_
      simp only [newExc, newTuple]
      refine wpAny_bind (wpAny_newObj_type ?_ (by size_fits))
      refine wpAny_bind (m := firstArgMember _ _) (wpAny_of_eq (a := Value.none) (by first | rfl | (simp only [firstArgMember]; rfl)) ?_)
      refine wpAny_newObj_type ?_ (by size_fits)
      simp only [raiseNew]
      refine wpAny_bind (wpAny_bind (wpAny_handled ?_))
      rw [show A.in1.handled = none from hh]
      refine wpAny_throw ?_
      refine wpAny_bind (wpAny_isInstance (T := "StopIteration") (b := true) ⟨_, Heap.get?_push_size _ rfl, rfl⟩ isSubtype_stop ?_)
      exact wpAny_pure (hN s' hn _ fun b o hb => Heap.get?_push_of_some _ (Heap.get?_push_of_some _ hb))

/-- a later waking -/
theorem wk_later {x : Str} {t : Tok} {L e it : Addr} {n g : Nat} {gs : GenState} (bL : base L = none) (be : base e = none) (bi : base it = none) (P : ∀ b o, base b = some o → s.heap.get? b = some o) (hg : s.gens[g]? = some gs) (hgo : gs.Goes (model prog w) A (gR L e it) (gYP base x t L e it) n (.send .none) (s.setGen g .running)) :
    Wk prog w A s g
      (fun v s' => ∃ s1 gs', s' = s1.setGen g gs' ∧ gs'.bare = true ∧ ∃ m, n = m + 1 ∧ ∃ (i c : Nat) (ta : Addr) (p : Value) (tk : Tok) (nn : Nat), x.cps[i]? = some c ∧ i + n = x.cps.size ∧ v = .ref ta ∧ s1.heap.get? ta = some (tupObj #[p, .str ⟨#[c]⟩ tk] nn) ∧ s.heap.get? ta = none ∧
        Kb (gOwn L e it) (s.setGen g .running) s1 ∧ GH x t L e it (mG x .any .any) (i + 1) s1.heap ∧
        ∀ s'', GH x t L e it (mG x .any .any) (i + 1) s''.heap → (∀ b o, base b = some o → s''.heap.get? b = some o) → gs'.Goes (model prog w) A (gR L e it) (gYP base x t L e it) m (.send .none) s'')
      (fun s' => ∃ s1, s' = s1.setGen g .finished ∧ n = 0 ∧ Kb (gOwn L e it) (s.setGen g .running) s1) := by
  intro α k Q E hy hn
  refine wpAny_resumeQ hg hgo (fun r s1 hx => ?_) (fun v s1 gs' hb hv => ?_)
  · obtain ⟨rfl, h0, K⟩ := hx
    exact hn _ ⟨s1, rfl, h0, K⟩
  · obtain ⟨i, c, ta, p, tk, nn, h1, h2, rfl, h4, h5, h6, h7, h8⟩ := hv
    cases n with
    | zero =>
      exact (h8 s1 h7 fun b o z => h6.keep b o (fun q => by
        rcases q with q | q | q
        · rw [q, bL] at z; cases z
        · rw [q, be] at z; cases z
        · rw [q, bi] at z; cases z) (P b o z)).elim
    | succ m =>
      exact hy _ _ ⟨s1, gs', rfl, hb, m, rfl, i, c, ta, p, tk, nn, h1, by omega, rfl, h4, h5, h6, h7, fun s'' G P => h8 s'' G P⟩

/-- the call of a name, with its arguments -/
theorem calling {prog : Program} {w : World} {fa : Nat → Addr} {T : Tab} {base : Addr → Option Obj} {A : Around} {E : Value → Shared → Prop} {s : Shared} {ρ : Map} {σ : St} {env : AEnv} {ce : Env} {k : Nat} {O : Ops}
    (IH : Snd prog w fa base O) {f : Expr} {args : List Expr} {pos : Pos} {fn : Fn} {σ1 σ2 : St} {vs : List AV} {Q : Value → Shared → Prop} (hna : ∀ o n p, f ≠ .Attribute o n p) (hlen : args.length ≤ 20) (h1 : O.ev k f env σ = some (.fn fn, σ1)) (h3 : evL (fun e σ => O.ev k e env σ) args σ1 = some (vs, σ2))
    (hr : Room A k) (R : Rep fa base ρ σ s.heap) (RE : REnv ρ env ce) (hk : ∀ h : Heap, (∀ b o, base b = some o → h.get? b = some o) → ∃ k, (k = Keeper.frame ∨ k = Keeper.machine ∨ k = Keeper.boundFrame) ∧ W.Looks (model prog w) h (keeperOf (valF fa fn)) k)
    (h : ∀ ρ2 s2 vs2, ρ.Le ρ2 → Ok s s2 → Rep fa base ρ2 σ2 s2.heap → RVs fa ρ2 vs vs2 → wpAny (model prog w) A (call (valF fa fn) vs2) Q E s2) : wpAny (model prog w) A (eval (.Call f args [] pos) ce) Q E s := by
  have hp := evL_stars (ce := ce) h3
  rw [eval_Call_plain hna]
  refine wpAny_bind (IH.ev h1 hr R RE fun ρ1 a1 s1 l1 o1 R1 ra => ?_)
  cases ra
  refine W.callWith_of (P := fun h => ∃ k, (k = Keeper.frame ∨ k = Keeper.machine ∨ k = Keeper.boundFrame) ∧ W.Looks (model prog w) h (keeperOf (valF fa fn)) k) (by rw [hp]; rfl) (fun _ x => x)
    (evalArgs_of (hp _) (evL_snd IH hr h3 R1 (RE.mono l1) fun ρ2 s2 vs2 l2 o2 R2 rs => ⟨?_, ?_⟩))
  · exact hk _ R2.keep
  · exact h ρ2 s2 vs2 (l1.trans l2) (o1.trans o2) R2 rs
end
end Mine
end

noncomputable section
set_option autoImplicit false
namespace Mine
open PySem PySem.W
open PyProof.Rows (AllBare StrsAre IntsAre News Fr)

theorem g_s0 (x : Str) : G0.ex 12 (nthS gB 0) gEnv (one (mA x)) = some (.next, stOf (G0.ex 12 (nthS gB 0) gEnv (one (mA x)))) := by kernel_rfl
def mP (x : Str) : List (Str × AV) := [("addr", .str x), ("pos", .int 0)]
theorem g_s0_at (x : Str) : (stOf (G0.ex 12 (nthS gB 0) gEnv (one (mA x)))).at 0 = some (.ns (mP x)) := by kernel_rfl
theorem g_s1 (x : Str) : G0.ex 12 (nthS gB 1) gEnv (one (mP x)) = some (.next, stOf (G0.ex 12 (nthS gB 1) gEnv (one (mP x)))) := by kernel_rfl
theorem g_s1_at (x : Str) : (stOf (G0.ex 12 (nthS gB 1) gEnv (one (mP x)))).at 0 = some (.ns (mG0 x)) := by kernel_rfl
theorem gI_set : notSet (forI gFor) = true := by kernel_rfl
theorem gI_plain : ∀ o n p, caF (forI gFor) ≠ .Attribute o n p := by
  have : (match caF (forI gFor) with | .Attribute .. => false | _ => true) = true := by kernel_rfl
  intro o n p e
  rw [e] at this
  cases this
theorem gI_len : (caA (forI gFor)).length ≤ 20 := by
  have : (caA (forI gFor)).length = 1 := by kernel_rfl
  omega

section
variable {prog : Program} {w : World} {base : Addr → Option Obj} {A : Around} {E : Value → Shared → Prop} {fs : List Frame} {s : Shared} {env : AEnv}

theorem fr_ex {L : Addr} {m m1 m' : List (Str × AV)} {l : Stmt} {σ' : St} {genv : Env} {Q : Flow → Shared → Prop} (SB : StatB prog w faN T0 base) (P : ∀ b o, base b = some o → s.heap.get? b = some o) (bL : base L = none)
    (hrun : G0.ex 12 l env (one m) = some (.next, σ')) (hat : σ'.at 0 = some (.ns m1)) (hb : Blur m1 m') (hf : flatM m' = true) (hr : Room A 12) (R : Fr1 L m s.heap) (RE : REnv (at1 L) env genv) (h : ∀ s', Kb (· = L) s s' → Fr1 L m' s'.heap → Q .next s') : wpAny (model prog w) A (exec l genv) Q E s :=
  (butL_snd SB P bL 60).ex hrun hr R.over RE fun ρ' s' f' l o R' hf' => by
    cases hf'
    exact h s' (butL_kb o R') (Fr1.again R' hat l hb hf)

theorem over_loop {c c₁ : Code} {k : Result → Sem Fin} {g : Bool} {l : List Value} {p : Pos} {j : Nat} (h1 : A.handled = none) (h2 : A.depth + j + 20 < 900) (h3 : A.units + 4 * j + 40 < 9000) (w1 : c.weight ≤ 4) (w2 : c₁.weight ≤ 4) (u1 : c.cUnits ≤ 8) (u2 : c₁.cUnits ≤ 8) :
    Room (A.over c [.ret k none g l c₁ p []]) j := by
  refine ⟨?_, ?_, ?_⟩
  · show (marksOver [.ret k none g l c₁ p []] (A.handled, A.handled)).1 = none
    rw [h1]; rfl
  · show A.depth + frameCount [(c₁, p)] + c.weight + j < 900
    rw [frameCount_cons]
    have : frameCount [] = 0 := rfl
    omega
  · show A.units + unitsOf [(c₁, p)] + c.cUnits + 4 * j < 9000
    rw [unitsOf_cons, unitsOf_nil]
    omega
theorem over_nil {c : Code} {j : Nat} (h1 : A.handled = none) (h2 : A.depth + j + 20 < 900) (h3 : A.units + 4 * j + 40 < 9000) (w1 : c.weight ≤ 4) (u1 : c.cUnits ≤ 8) : Room (A.over c []) j := by
  refine ⟨?_, ?_, ?_⟩
  · show (marksOver [] (A.handled, A.handled)).1 = none
    rw [h1]; rfl
  · show A.depth + frameCount [] + c.weight + j < 900
    have : frameCount [] = 0 := rfl
    omega
  · show A.units + unitsOf [] + c.cUnits + 4 * j < 9000
    rw [unitsOf_nil]
    omega

theorem w_func (genv : Env) : (Code.func gB genv).weight ≤ 4 := Nat.le_of_ble_eq_true rfl
theorem u_func (genv : Env) : (Code.func gB genv).cUnits ≤ 8 := Nat.le_of_ble_eq_true rfl
theorem w_loop (v : Value) (genv : Env) : (Code.forLoop gT v gBody [] genv).weight ≤ 4 := Nat.le_of_ble_eq_true rfl
theorem u_loop (v : Value) (genv : Env) : (Code.forLoop gT v gBody [] genv).cUnits ≤ 8 := Nat.le_of_ble_eq_true rfl
def FirstY (prog : Program) (w : World) (A : Around) (base : Addr → Option Obj) (x : Str) (L : Addr) (s : Shared) (g : Nat) (v : Value) (s' : Shared) : Prop :=
  ∃ e it t, GP x L e it ∧ base e = none ∧ base it = none ∧ s.heap.get? e = none ∧ s.heap.get? it = none ∧ ∃ s1 gs', s' = s1.setGen g gs' ∧ gs'.bare = true ∧ ∃ (c : Nat) (ta : Addr) (p : Value) (tk : Tok) (nn : Nat), x.cps[0]? = some c ∧ v = .ref ta ∧ s1.heap.get? ta = some (tupObj #[p, .str ⟨#[c]⟩ tk] nn) ∧ s.heap.get? ta = none ∧
    Kb (· = L) (s.setGen g .running) s1 ∧ GH x t L e it (mG x .any .any) 1 s1.heap ∧
    ∀ s'', GH x t L e it (mG x .any .any) 1 s''.heap → (∀ b o, base b = some o → s''.heap.get? b = some o) → gs'.Goes (model prog w) A (gR L e it) (gYP base x t L e it) (x.cps.size - 1) (.send .none) s''

theorem wk_first {x : Str} {L : Addr} {g : Nat} {genv : Env} (SB : StatB prog w faN T0 base) (bL : base L = none) (P : ∀ b o, base b = some o → s.heap.get? b = some o) (has : x.cps.all (· < 128) = true) (hcs : ∀ i c : Nat, x.cps[i]? = some c → c = 40 ∨ c = 41) (hpos : 0 < x.cps.size)
    (RE : REnv (at1 L) gEnv genv) (hco : genv.scope.isCoroutine = false) (h1 : A.handled = none) (h2 : A.depth + 13 + 20 < 900) (h3 : A.units + 4 * 13 + 40 < 9000) (hg : s.gens[g]? = some (.fresh (.func gB genv))) (F : Fr1 L (mA x) s.heap) :
    Wk prog w A s g (FirstY prog w A base x L s g) (fun _ => False) := by
  intro α k Q E hy hn Γ p hΓ
  refine X.wake_any α prog w hg (.inl ⟨rfl, rfl, rfl, rfl⟩) (fun Γ => Γ.In A) (fun _ h => h) ?_ Γ p hΓ
  have hr : Room (A.over (.func gB genv) []) 13 := over_nil h1 h2 h3 (w_func genv) (u_func genv)
  have hr12 := hr.less (j := 12) (by decide)
  show X.SegX _ A (.func gB genv) (.point [] fun _ => ((execs gB genv).onRaise (leaving genv)) >>= _) [] (s.setGen g .running) _
  refine sx_wrap (m := point) (H := .raise) (gd := id) (lv := fun _ => []) (wpAny_point ?_)
  rw [Sem.onRaise_eq_wrap, Sem.bind_eq_wrap', Sem.wrap_wrap]
  rw [gB_is, execs_cons_wrap]
  refine sx_wrap (fr_ex SB P bL (g_s0 x) (g_s0_at x) (Blur.refl _) rfl hr12 F RE fun s1 k1 F1 => ?_)
  have P1 : ∀ b o, base b = some o → s1.heap.get? b = some o := fun b o z => k1.keep b o (fun q => by rw [q, bL] at z; cases z) (P b o z)
  dsimp only
  rw [execs_cons_wrap]
  refine sx_wrap (fr_ex SB P1 bL (g_s1 x) (g_s1_at x) (Blur.refl _) rfl hr12 F1 RE fun s2 k2 F2 => ?_)
  have P2 : ∀ b o, base b = some o → s2.heap.get? b = some o := fun b o z => k2.keep b o (fun q => by rw [q, bL] at z; cases z) (P1 b o z)
  dsimp only
  rw [execs_cons_wrap, exec_For, Sem.bind_eq_wrap', Sem.wrap_wrap]
  refine sx_wrap (wpAny_standAt ?_)
  rw [Sem.bind_eq_wrap', Sem.wrap_wrap]
  have kp : ∀ h : Heap, (∀ b o, butL s2.heap L b = some o → h.get? b = some o) → ∃ k, (k = Keeper.frame ∨ k = Keeper.machine ∨ k = Keeper.boundFrame) ∧ W.Looks (model prog w) h (keeperOf (valF faN .enum)) k := fun h _ => ⟨.machine, .inr (.inl rfl), .of_pure rfl⟩
  have key := fun {Q : Value → Shared → Prop} {E : Value → Shared → Prop} => calling (E := E) (Q := Q) (ce := genv) (pos := caP (forI gFor)) (T := T0) (butL_snd SB P2 bL 60) gI_plain gI_len (g_enum x) (g_addr x) hr12 F2.over RE kp
  rw [← gI_is] at key
  refine sx_wrap (key fun ρ3 s3 vs3 l3 o3 R3 rs3 => ?_)
  cases rs3 with
  | cons r1 rr =>
  cases rr
  obtain ⟨t, rfl⟩ := r1
  have k3 := butL_kb o3 R3
  have F3 : Fr1 L (mG0 x) s3.heap := Fr1.again R3 rfl l3 (Blur.refl _) rfl
  have P3 : ∀ b o, base b = some o → s3.heap.get? b = some o := fun b o z => k3.keep b o (fun q => by rw [q, bL] at z; cases z) (P2 b o z)
  refine call_enumerate_str fun h4 he4 hi4 hz4 hk4 => ?_
  have hit : strIterType x = "str_ascii_iterator" := by unfold strIterType; rw [if_pos has]
  rw [hit] at hi4
  rw [Sem.bind_eq_wrap', Sem.wrap_wrap]
  refine sx_wrap (wpAny_of_eq (set_pure gI_set _) ?_)
  rw [Sem.bind_eq_wrap', Sem.wrap_wrap]
  refine sx_wrap (wpAny_standAt ?_)
  rw [Sem.bind_eq_wrap', Sem.wrap_wrap]
  refine sx_wrap (wpAny_holding (wpAny_pyIter_enum he4 ?_))
  have k03 := (k1.trans k2).trans k3
  have hold : ∀ b o, s.heap.get? b = some o → ∃ o', s3.heap.get? b = some o' := fun b o z => by
    by_cases q : b = L
    · subst q
      obtain ⟨a, ob, q1, q2, _⟩ := F3.obj 0 _ rfl trivial
      cases q1
      exact ⟨ob, q2⟩
    · exact ⟨o, k03.keep b o q z⟩
  have new : ∀ b, s3.heap.objs.size ≤ b → s.heap.get? b = none := fun b hb => by
    cases z : s.heap.get? b with
    | none => rfl
    | some o => obtain ⟨o', z'⟩ := hold b o z; exact absurd (Heap.lt_size z') (Nat.not_lt.mpr hb)
  have hLlt : L < s3.heap.objs.size := by
    obtain ⟨a, ob, q1, q2, _⟩ := F3.obj 0 _ rfl trivial
    cases q1
    exact Heap.lt_size q2
  have bnew : ∀ b, s3.heap.objs.size ≤ b → base b = none := fun b hb => by
    cases z : base b with
    | none => rfl
    | some o => exact absurd (Heap.lt_size (P3 b o z)) (Nat.not_lt.mpr hb)
  have gp : GP x L (s3.heap.objs.size + 1) s3.heap.objs.size := ⟨Nat.ne_of_lt (Nat.lt_succ_of_lt hLlt), Nat.ne_of_lt hLlt, Nat.succ_ne_self _, has, hcs⟩
  have be := bnew (s3.heap.objs.size + 1) (Nat.le_succ _)
  have bi := bnew s3.heap.objs.size (Nat.le_refl _)
  have G4 : GH x t L (s3.heap.objs.size + 1) s3.heap.objs.size (mG0 x) 0 h4 := ⟨F3.keeps fun o z => hk4 L o z, ⟨_, he4⟩, hi4⟩
  have k04 : Kb (· = L) (s.setGen g .running) { s3 with heap := h4 } := k03.trans ⟨fun c o _ z => hk4 c o z, .heap _ _⟩
  have P4 : ∀ b o, base b = some o → h4.get? b = some o := fun b o z => hk4 b o (P3 b o z)
  refine X.s_call prog w A _ _ _ _ _ _ _ _ _ fun p => ?_
  refine X.SegX.mono (sx_of_seg (segLoop SB bL be bi gp RE hco rfl rfl (over_loop h1 h2 h3 (w_loop _ genv) (w_func genv) (u_loop _ genv) (u_func genv)) ?_ x.cps.size { s3 with heap := h4 } { s3 with heap := h4 } (mG0 x) 0 (by omega) (.inl rfl) G4 (.refl _ _) P4)) (fun en s' he => ?_)
  · intro s₀ c s5 m hm F5 P5 K5
    refine seg_leaf (.ok .next) ?_
    show Seg _ A _ _ 0 s₀ (.func gB genv) ((execs [.If (ifT gEnd) (ifB gEnd) [] (ifP gEnd)] genv).wrap _ _ _ _) [] s5
    refine seg_execs_cons ?_
    rw [exec_If, Sem.bind_eq_wrap', Sem.wrap_wrap]
    refine seg_wrap (wpAny_standAt ?_)
    rw [Sem.bind_eq_wrap', Sem.wrap_wrap]
    have fin : ∀ s6, Kb (· = L) s5 s6 → Seg (model prog w) A (gR L (s3.heap.objs.size + 1) s3.heap.objs.size) (gYP base x t L (s3.heap.objs.size + 1) s3.heap.objs.size) 0 s₀ (.func gB genv) (leafOf (.ok (.ret .none))) [] s6 := fun s6 k6 =>
      seg_end (.ok (.ret .none)) ⟨rfl, rfl, K5.trans (k6.weak fun _ q => .inl q)⟩
    rcases hm with rfl | rfl
    · refine seg_wrap (fr_tr SB P5 bL (g_end0 x) rfl hr12 F5 RE fun s6 k6 F6 => ?_)
      rw [if_neg Bool.false_ne_true]
      exact fin s6 k6
    · refine seg_wrap (fr_tr SB P5 bL (g_end1 x) rfl hr12 F5 RE fun s6 k6 F6 => ?_)
      rw [if_neg Bool.false_ne_true]
      exact fin s6 k6
  · cases en with
    | ret r =>
      obtain ⟨_, h0, _⟩ := he
      omega
    | susp v g0 l k0 c p fs0 =>
      obtain ⟨hq, i, c1, ta, p1, tk, nn, a1, a2, rfl, a4, a5, a6, a7, a8⟩ := he
      have hi0 : i = 0 := by omega
      subst hi0
      have hta : s.heap.get? ta = none := by
        cases z : s.heap.get? ta with
        | none => rfl
        | some o =>
          obtain ⟨o', z'⟩ := hold ta o z
          have z2 := hk4 ta o' z'
          have a5' : h4.get? ta = none := a5
          rw [a5'] at z2; cases z2
      refine fun Γ p hC => hy _ _ ⟨_, _, t, gp, be, bi, new _ (Nat.le_succ _), new _ (Nat.le_refl _), s', _, rfl, End.bare_of_quiet hq, c1, ta, p1, tk, nn, a1, rfl, a4, hta, ⟨fun c o n z => a6.keep c o ?_ (k04.keep c o n z), k04.ok.trans a6.ok⟩, a7, fun s'' G'' P'' => ?_⟩ Γ p hC
      · rintro (q | q | q)
        · exact n q
        · have z' : s.heap.get? c = some o := z
          rw [q, new _ (Nat.le_succ _)] at z'; cases z'
        · have z' : s.heap.get? c = some o := z
          rw [q, new _ (Nat.le_refl _)] at z'; cases z'
      · have := a8 s'' G'' P''
        obtain ⟨m, hm⟩ : ∃ m, x.cps.size = m + 1 := ⟨x.cps.size - 1, by omega⟩
        rw [hm] at this ⊢
        exact this
end
end Mine
end

noncomputable section
set_option autoImplicit false
namespace Mine
open PySem PySem.W
open PyProof.Rows (AllBare StrsAre IntsAre News Fr)

/-! the checker's text, by its places -/
theorem chk_is : (defAt PP 3 [] []).isSome = true := by kernel_rfl
def cInfo : FnInfo := (defAt PP 3 [] []).get chk_is
def cB : List Stmt := cInfo.body
def cEnv : AEnv := ⟨cInfo.scope, 0, []⟩
def cFor : Stmt := nthS cB 2
def cBody : List Stmt := forB cFor
def cT : Expr := .Tuple (tuE (forT cFor)) (tuK (forT cFor)) (tuP (forT cFor))
theorem cB_is : cB = [nthS cB 0, nthS cB 1, .For cT (forI cFor) cBody [] (forP cFor), nthS cB 3] := by kernel_rfl
theorem cI_is : forI cFor = .Call (caF (forI cFor)) (caA (forI cFor)) [] (caP (forI cFor)) := by kernel_rfl
theorem cI_set : notSet (forI cFor) = true := by kernel_rfl
theorem cI_plain : ∀ o n p, caF (forI cFor) ≠ .Attribute o n p := by
  have : (match caF (forI cFor) with | .Attribute .. => false | _ => true) = true := by kernel_rfl
  intro o n p e
  rw [e] at this
  cases this
theorem cI_len : (caA (forI cFor)).length ≤ 20 := by
  have : (caA (forI cFor)).length = 1 := by kernel_rfl
  omega
def mC0 (x : Str) : List (Str × AV) := [("addr", .str x), ("opens", .int 0)]
def mC (x : Str) (o : Int) (c : AV) : List (Str × AV) := [("addr", .str x), ("opens", .int o), ("pos", .any), ("ch", c)]
def okStart (x : Str) : Bool := match G0.ex 12 (nthS cB 0) cEnv (one (mA x)) with
  | some (.next, σ) => match σ.at 0 with
    | some (.ns [(a, .str y)]) => sB a "addr" && sB y x
    | _ => false
  | _ => false
theorem c_start {x : Str} (h : okStart x = true) : ∃ σ, G0.ex 12 (nthS cB 0) cEnv (one (mA x)) = some (.next, σ) ∧ σ.at 0 = some (.ns (mA x)) := by
  unfold okStart at h
  split at h
  · rename_i σ h1
    split at h
    · rename_i a y h2
      rw [Bool.and_eq_true] at h
      refine ⟨σ, h1, ?_⟩
      rw [h2, sB_iff.mp h.1, sB_iff.mp h.2]; rfl
    · cases h
  · cases h
theorem c_s1 (x : Str) : G0.ex 12 (nthS cB 1) cEnv (one (mA x)) = some (.next, stOf (G0.ex 12 (nthS cB 1) cEnv (one (mA x)))) := by kernel_rfl
theorem c_s1_at (x : Str) : (stOf (G0.ex 12 (nthS cB 1) cEnv (one (mA x)))).at 0 = some (.ns (mC0 x)) := by kernel_rfl
theorem c_iter (x : Str) : G0.ev 12 (caF (forI cFor)) cEnv (one (mC0 x)) = some (.fn (.user 1), one (mC0 x)) := by kernel_rfl
theorem c_addr (x : Str) : evL (fun e σ => G0.ev 12 e cEnv σ) (caA (forI cFor)) (one (mC0 x)) = some ([.str x], one (mC0 x)) := by kernel_rfl
def stC (m : List (Str × AV)) (c : Nat) : St := (one m).push (.tup [.any, chr c])
theorem c_asg0 (x : Str) (c : Nat) : assignA cT cEnv (.ref 1) (stC (mC0 x) c) = some (stO (assignA cT cEnv (.ref 1) (stC (mC0 x) c))) := by kernel_rfl
theorem c_asg0_at (x : Str) (c : Nat) : (stO (assignA cT cEnv (.ref 1) (stC (mC0 x) c))).at 0 = some (.ns (mC x 0 (chr c))) := by kernel_rfl
theorem c_asg1 (x : Str) (o : Int) (c : Nat) : assignA cT cEnv (.ref 1) (stC (mC x o .any) c) = some (stO (assignA cT cEnv (.ref 1) (stC (mC x o .any) c))) := by kernel_rfl
theorem c_asg1_at (x : Str) (o : Int) (c : Nat) : (stO (assignA cT cEnv (.ref 1) (stC (mC x o .any) c))).at 0 = some (.ns (mC x o (chr c))) := by kernel_rfl
def goes (x : Str) (o : Int) (c : Nat) (o' : Int) : Prop := ∃ σ, G0.exs 12 cBody cEnv (one (mC x o (chr c))) = some (.next, σ) ∧ σ.at 0 = some (.ns (mC x o' (chr c)))
theorem c_open (x : Str) (o : Int) : goes x o 40 (o + 1) := ⟨stOf (G0.exs 12 cBody cEnv (one (mC x o (chr 40)))), by kernel_rfl, by kernel_rfl⟩
theorem c_shut1 (x : Str) : goes x 1 41 0 := ⟨stOf (G0.exs 12 cBody cEnv (one (mC x 1 (chr 41)))), by kernel_rfl, by kernel_rfl⟩
theorem c_shut2 (x : Str) : goes x 2 41 1 := ⟨stOf (G0.exs 12 cBody cEnv (one (mC x 2 (chr 41)))), by kernel_rfl, by kernel_rfl⟩
theorem c_shut3 (x : Str) : goes x 3 41 2 := ⟨stOf (G0.exs 12 cBody cEnv (one (mC x 3 (chr 41)))), by kernel_rfl, by kernel_rfl⟩
theorem c_shut4 (x : Str) : goes x 4 41 3 := ⟨stOf (G0.exs 12 cBody cEnv (one (mC x 4 (chr 41)))), by kernel_rfl, by kernel_rfl⟩
theorem c_ret (x : Str) : G0.ex 12 (nthS cB 3) cEnv (one (mC x 0 .any)) = some (.ret (.bool true), stOf (G0.ex 12 (nthS cB 3) cEnv (one (mC x 0 .any)))) := by kernel_rfl
/-- balanced, at most four deep -/
def bal : List Nat → Nat → Bool
  | [], o => Nat.beq o 0
  | c :: r, o => match Nat.beq c 40 with
    | true => Nat.blt o 4 && bal r (o + 1)
    | false => match o with
      | 0 => false
      | o + 1 => Nat.beq c 41 && Nat.ble o 3 && bal r o
def okWord (x : Str) : Bool := okStart x && bal x.cps.toList 0 && x.cps.all (· < 128) && Nat.blt 0 x.cps.size
theorem words_ok : tabCheck.all (fun e => match e.2.1, e.2.2 with | [.str x], .bool true => Nat.beq e.1 3 && okWord x | _, _ => false) = true := by decide +kernel
end Mine
end

noncomputable section
set_option autoImplicit false
namespace Mine
open PySem PySem.W
open PyProof.Rows (AllBare StrsAre IntsAre News Fr)

theorem Grows.set {a b : Array GenState} (x : Grows a b) {g : Nat} {y : GenState} (hg : a.size ≤ g) (hy : y.bare = true) : Grows a (b.setIfInBounds g y) := by
  obtain ⟨l, rfl, hl⟩ := x
  refine ⟨l.setIfInBounds (g - a.size) y, ?_, fun z hz => ?_⟩
  · apply Array.ext'
    simp only [Array.toList_setIfInBounds, Array.toList_append]
    rw [List.set_append_right _ _ (by simpa using hg)]
    simp
  · rcases Array.mem_or_eq_of_mem_setIfInBounds hz with h | rfl
    · exact hl z h
    · exact hy

section
variable {prog : Program} {w : World} {base : Addr → Option Obj} {A : Around} {E : Value → Shared → Prop} {s : Shared} {x : Str}

theorem letOwn_gen {ga : Addr} {g : Nat} {t : Expr} {v : Value} {Q : Unit → Shared → Prop} (hg : s.heap.IsGen ga g) (h : Q () s) : wpAny (model prog w) A (letOwnedTupleGo t (.ref ga) v) Q E s := by
  obtain ⟨ob, nm, qn, ho, hc, hd, hs⟩ := hg
  have hn : (["enumerate", "zip", "dict_itemiterator", "dict_reverseitemiterator", "odict_iterator", "itertools.zip_longest", "itertools.pairwise"] : List String).contains "generator" = false := by decide +kernel
  have go : wpAny (model prog w) A (do
      let (.ref r, .ref a) := (Value.ref ga, v) | return
      let o ← load r
      match o.cls, o.data with
      | .type n, .fields vs =>
        if ["enumerate", "zip", "dict_itemiterator", "dict_reverseitemiterator", "odict_iterator", "itertools.zip_longest", "itertools.pairwise"].contains n && vs[0]? == some (rawInt a) then
          rule "for.unpacks-the-owned-tuple"
          updateField r 0 .none
      | _, _ => pure ()) Q E s := by
    cases v with
    | ref b =>
      show wpAny _ A (load ga >>= _) _ _ s
      refine wpAny_bind (wpAny_load ho ?_)
      rw [hc, hd]
      dsimp only
      rw [hn, Bool.false_and, if_neg (by decide)]
      exact wpAny_pure h
    | _ => exact wpAny_pure h
  cases t with
  | Tuple es kk p => exact go
  | List es p => exact go
  | _ => exact wpAny_pure h

/-- the checker's state between two turns -/
structure CS (sI : Shared) (Lc ga : Addr) (g : Nat) (m : List (Str × AV)) (s : Shared) : Prop where
  fr : Fr1 Lc m s.heap
  gen : s.heap.IsGen ga g
  keep : ∀ b o, sI.heap.get? b = some o → s.heap.get? b = some o
  ok : Ok sI s
  nL : sI.heap.get? Lc = none
  ng : sI.heap.get? ga = none
  sz : sI.gens.size ≤ g

theorem ne_of_data {h : Heap} {a b : Addr} {o o' : Obj} (h1 : h.get? a = some o) (h2 : h.get? b = some o') (hd : o.data ≠ o'.data) : a ≠ b := fun q => by
  subst q
  rw [h1] at h2
  cases h2
  exact hd rfl
theorem Fr1.obj1 {L : Addr} {m : List (Str × AV)} {h : Heap} (F : Fr1 L m h) : ∃ o es ep, h.get? L = some o ∧ o.data = .dict es ep := by
  obtain ⟨a, ob, q1, q2, es, ep, hd, _⟩ := F.obj 0 _ rfl trivial
  cases q1
  exact ⟨ob, es, ep, q2, hd⟩

theorem chk_body {sI : Shared} {Lc ga ta : Addr} {g c nn : Nat} {m : List (Str × AV)} {o o' : Int} {p : Value} {tk : Tok} {ce : Env} {σ3 : St} {R : Result → Shared → Prop} (SB : StatB prog w faN T0 sI.heap.get?) (hr : Room A 13) (RE : REnv (at1 Lc) cEnv ce)
    (C : CS sI Lc ga g m s) (ht : s.heap.get? ta = some (tupObj #[p, .str ⟨#[c]⟩ tk] nn)) (hasg : assignA cT cEnv (.ref 1) (stC m c) = some σ3) (hat3 : σ3.at 0 = some (.ns (mC x o (chr c)))) (hb : goes x o c o') (hta : sI.heap.get? ta = none)
    (h : ∀ s', CS sI Lc ga g (mC x o' .any) s' → Kb (fun b => b = Lc ∨ b = ta) s s' → codeAny (model prog w) A (.forLoop cT (.ref ga) cBody [] ce) R s') :
    wpAny (model prog w) A (do
      letOwnedTupleGo cT (.ref ga) (.ref ta)
      assign cT ce (.ref ta)
      match ← execs cBody ce with
      | .next | .cont => again (.forLoop cT (.ref ga) cBody [] ce)
      | .brk => pure (.done .next)
      | .ret v => pure (.done (.ret v))) (fun fin s' => match fin with | .done f => R (.ok f) s' | .again c' => c'.quiet = true ∧ codeAny (model prog w) A c' R s') E s := by
  obtain ⟨oL, es, ep, gL, dL⟩ := C.fr.obj1
  have hLt : Lc ≠ ta := ne_of_data gL ht (by rw [dL]; intro q; cases q)
  obtain ⟨og, nm, qn, gg, cg, dg, sg⟩ := C.gen
  have hgL : ga ≠ Lc := ne_of_data gg gL (by rw [dg, dL]; intro q; cases q)
  have hgt : ga ≠ ta := ne_of_data gg ht (by rw [dg]; intro q; cases q)
  refine wpAny_bind (letOwn_gen ⟨og, nm, qn, gg, cg, dg, sg⟩ ?_)
  have R2 : Rep faN (but2 s.heap Lc ta) (at2 Lc ta) (stC m c) s.heap := two_rep C.fr ht hLt ⟨_, _, rfl, .cons trivial (.cons ⟨tk, rfl⟩ .nil)⟩
  refine wpAny_bind (assign_snd hr R2 (RE.mono (at1_le Lc _)) hasg ⟨_, rfl, rfl⟩ fun s3 o3 R3 => ?_)
  have F3 : Fr1 Lc (mC x o (chr c)) s3.heap := Fr1.again R3 hat3 (at1_le Lc _) (Blur.refl _) rfl
  have k3 : Kb (fun b => b = Lc ∨ b = ta) s s3 := ⟨fun b ob n z => R3.keep b ob (by unfold but2; rw [if_neg n]; exact z), o3⟩
  have P3 : ∀ b o, sI.heap.get? b = some o → s3.heap.get? b = some o := fun b ob z => k3.keep b ob (by
    rintro (q | q)
    · rw [q, C.nL] at z; cases z
    · rw [q, hta] at z; cases z) (C.keep b ob z)
  obtain ⟨σ4, hrun, hat4⟩ := hb
  refine wpAny_bind (fr_exs SB P3 C.nL hrun hat4 (m' := mC x o' .any) (.same (.same (.same (.any .nil)))) rfl (hr.less (by decide)) F3 RE fun s4 k4 F4 => ?_)
  refine wpAny_pure ⟨rfl, h s4 ⟨F4, ?_, ?_, ?_, C.nL, C.ng, C.sz⟩ (k3.trans (k4.weak fun _ q => .inl q))⟩
  · exact ⟨og, nm, qn, k4.keep ga _ hgL (k3.keep ga _ (by rintro (q | q); exact hgL q; exact hgt q) gg), cg, dg, sg⟩
  · exact fun b ob z => k4.keep b ob (fun q => by rw [q, C.nL] at z; cases z) (P3 b ob z)
  · exact C.ok.trans (o3.trans k4.ok)
end
end Mine
end

noncomputable section
set_option autoImplicit false
namespace Mine
open PySem PySem.W
open PyProof.Rows (AllBare StrsAre IntsAre News Fr)

section
variable {prog : Program} {w : World} {base : Addr → Option Obj} {A : Around} {E : Value → Shared → Prop} {s : Shared} {x : Str}

theorem cs_wake {sI s1 : Shared} {Lc ga : Addr} {g : Nat} {m : List (Str × AV)} {gs gs' : GenState} {own : Addr → Prop} (C : CS sI Lc ga g m s) (hg : s.gens[g]? = some gs) (K : Kb own (s.setGen g .running) s1) (n1 : ¬ own Lc) (n2 : ¬ own ga) (n3 : ∀ b o, sI.heap.get? b = some o → ¬ own b) (hb : gs'.bare = true) :
    CS sI Lc ga g m (s1.setGen g gs') ∧ (s1.setGen g gs').gens[g]? = some gs' := by
  obtain ⟨og, nm, qn, gg, cg, dg, sg⟩ := C.gen
  have hlt : g < s.gens.size := (Array.getElem?_eq_some_iff.mp hg).1
  have g1 : Grows sI.gens (s.setGen g .running).gens := C.ok.gens.set C.sz rfl
  have g2 : Grows sI.gens s1.gens := g1.trans K.ok.gens
  have hrun : (s.setGen g .running).gens[g]? = some .running := by
    show (s.gens.setIfInBounds g .running)[g]? = _
    rw [Array.getElem?_setIfInBounds_self_of_lt hlt]
  have hlt1 : g < s1.gens.size := (Array.getElem?_eq_some_iff.mp (K.ok.gens.at hrun)).1
  refine ⟨⟨C.fr.keeps fun o z => K.keep Lc o n1 z, ⟨og, nm, qn, K.keep ga _ n2 gg, cg, dg, sg⟩, fun b o z => K.keep b o (n3 b o z) (C.keep b o z), ⟨K.ok.os.trans C.ok.os, g2.set C.sz hb⟩, C.nL, C.ng, C.sz⟩, ?_⟩
  show (s1.gens.setIfInBounds g gs')[g]? = _
  rw [Array.getElem?_setIfInBounds_self_of_lt hlt1]

structure Ap (sI : Shared) (Lc ga L e it : Addr) : Prop where
  c : ¬ gOwn L e it Lc
  g : ¬ gOwn L e it ga
  i : ∀ b, gOwn L e it b → sI.heap.get? b = none

theorem bal_step {c : Nat} {r : List Nat} {o : Nat} (h : bal (c :: r) o = true) : ∃ o' : Nat, goes x o c o' ∧ bal r o' = true := by
  unfold bal at h
  split at h
  · rename_i q
    obtain rfl := Nat.eq_of_beq_eq_true q
    rw [Bool.and_eq_true] at h
    exact ⟨o + 1, c_open x o, h.2⟩
  · split at h
    · cases h
    · rename_i o1
      rw [Bool.and_eq_true, Bool.and_eq_true] at h
      obtain ⟨⟨h1, h2⟩, h3⟩ := h
      obtain rfl := Nat.eq_of_beq_eq_true h1
      have h2' := Nat.le_of_ble_eq_true h2
      refine ⟨o1, ?_, h3⟩
      have : o1 = 0 ∨ o1 = 1 ∨ o1 = 2 ∨ o1 = 3 := by omega
      rcases this with rfl | rfl | rfl | rfl
      · exact c_shut1 x
      · exact c_shut2 x
      · exact c_shut3 x
      · exact c_shut4 x

theorem drop_cons {i c : Nat} (h : x.cps[i]? = some c) : x.cps.toList.drop i = c :: x.cps.toList.drop (i + 1) := by
  have h' : x.cps.toList[i]? = some c := by rw [Array.getElem?_toList]; exact h
  obtain ⟨hi, rfl⟩ := List.getElem?_eq_some_iff.mp h'
  exact List.drop_eq_getElem_cons hi

/-- after a yield: the turn's rest -/
theorem chk_yield {sI s6 : Shared} {t : Tok} {Lc ga L e it ta : Addr} {g c nn i n : Nat} {m : List (Str × AV)} {o : Nat} {p : Value} {tk : Tok} {ce : Env} {gs' : GenState} {R : Result → Shared → Prop} (SB : StatB prog w faN T0 sI.heap.get?) (hr : Room A 13) (RE : REnv (at1 Lc) cEnv ce) (ap : Ap sI Lc ga L e it)
    (hin : i + n + 1 = x.cps.size) (hbal : bal (x.cps.toList.drop i) o = true) (hm : m = mC0 x ∧ o = 0 ∨ m = mC x o .any) (C : CS sI Lc ga g m s6) (hgs : s6.gens[g]? = some gs') (hc : x.cps[i]? = some c) (ht : s6.heap.get? ta = some (tupObj #[p, .str ⟨#[c]⟩ tk] nn)) (hta : sI.heap.get? ta = none) (G : GH x t L e it (mG x .any .any) (i + 1) s6.heap)
    (hgo : ∀ s'', GH x t L e it (mG x .any .any) (i + 1) s''.heap → (∀ b o, sI.heap.get? b = some o → s''.heap.get? b = some o) → gs'.Goes (model prog w) A.in1 (gR L e it) (gYP sI.heap.get? x t L e it) n (.send .none) s'')
    (ih : ∀ s o gs, bal (x.cps.toList.drop (i + 1)) o = true → CS sI Lc ga g (mC x o .any) s → GH x t L e it (mG x .any .any) (i + 1) s.heap → s.gens[g]? = some gs → (∀ s'', GH x t L e it (mG x .any .any) (i + 1) s''.heap → (∀ b o, sI.heap.get? b = some o → s''.heap.get? b = some o) → gs.Goes (model prog w) A.in1 (gR L e it) (gYP sI.heap.get? x t L e it) n (.send .none) s'') →
      codeAny (model prog w) A (.forLoop cT (.ref ga) cBody [] ce) R s) :
    wpAny (model prog w) A (do
      letOwnedTupleGo cT (.ref ga) (.ref ta)
      assign cT ce (.ref ta)
      match ← execs cBody ce with
      | .next | .cont => again (.forLoop cT (.ref ga) cBody [] ce)
      | .brk => pure (.done .next)
      | .ret v => pure (.done (.ret v))) (fun fin s' => match fin with | .done f => R (.ok f) s' | .again c' => c'.quiet = true ∧ codeAny (model prog w) A c' R s') E s6 := by
  rw [drop_cons hc] at hbal
  obtain ⟨o', hgoes, hbal'⟩ := bal_step (x := x) hbal
  obtain ⟨σ3, hasg, hat3⟩ : ∃ σ3, assignA cT cEnv (.ref 1) (stC m c) = some σ3 ∧ σ3.at 0 = some (.ns (mC x o (chr c))) := by
    rcases hm with ⟨rfl, rfl⟩ | rfl
    · exact ⟨_, c_asg0 x c, c_asg0_at x c⟩
    · exact ⟨_, c_asg1 x o c, c_asg1_at x o c⟩
  refine chk_body SB hr RE C ht hasg hat3 hgoes hta fun s7 C7 k7 => ?_
  have hown : ∀ b, gOwn L e it b → ¬ (b = Lc ∨ b = ta) := by
    intro b hb
    rintro (rfl | rfl)
    · exact ap.c hb
    · rcases hb with rfl | rfl | rfl
      · obtain ⟨oL, es, ep, gL, dL⟩ := G.fr.obj1
        exact ne_of_data gL ht (by rw [dL]; intro q; cases q) rfl
      · obtain ⟨old, q⟩ := G.en
        exact ne_of_data q ht (by intro q; cases q) rfl
      · obtain ⟨oi, q, _, dq⟩ := G.si
        exact ne_of_data q ht (by rw [dq]; intro q; cases q) rfl
  exact ih s7 o' gs' hbal' C7 (G.keeps fun b ob hb z => k7.keep b ob (hown b hb) z) (k7.ok.gens.at hgs) hgo
end
end Mine
end

noncomputable section
set_option autoImplicit false
namespace Mine
open PySem PySem.W
open PyProof.Rows (AllBare StrsAre IntsAre News Fr)

section
variable {prog : Program} {w : World} {base : Addr → Option Obj} {A : Around} {E : Value → Shared → Prop} {s : Shared} {x : Str}

theorem Room.rec (hr : Room A 13) : A.depth < recursionLimit := by
  have := hr.2.1
  unfold recursionLimit; omega

theorem chk_loop {sI : Shared} {t : Tok} {Lc ga L e it : Addr} {g : Nat} {ce : Env} {R : Result → Shared → Prop} (SB : StatB prog w faN T0 sI.heap.get?) (hr : Room A 13) (RE : REnv (at1 Lc) cEnv ce) (ap : Ap sI Lc ga L e it)
    (hR : ∀ s', CS sI Lc ga g (mC x 0 .any) s' → R (.ok .next) s') :
    ∀ (n i : Nat), i + n = x.cps.size → ∀ (s : Shared) (o : Nat) (gs : GenState), bal (x.cps.toList.drop i) o = true → CS sI Lc ga g (mC x o .any) s → GH x t L e it (mG x .any .any) i s.heap → s.gens[g]? = some gs →
      (∀ s'', GH x t L e it (mG x .any .any) i s''.heap → (∀ b o, sI.heap.get? b = some o → s''.heap.get? b = some o) → gs.Goes (model prog w) A.in1 (gR L e it) (gYP sI.heap.get? x t L e it) n (.send .none) s'') →
      codeAny (model prog w) A (.forLoop cT (.ref ga) cBody [] ce) R s := by
  intro n
  induction n with
  | zero =>
    intro i hi s o gs hbal C G hgs hgo
    refine codeAny_of_tree ?_
    show wpAny _ A ((forTurn cT (.ref ga) cBody [] ce).onRaise (fun x => do noteFrame x ce; theTreesLotGoes x)) _ _ s
    refine wpAny_noted ?_
    unfold forTurn
    refine wpAny_bind (wpAny_standAt (wpAny_bind (wpAny_onRaise ?_)))
    have hg0 := hgo (s.setGen g .running) G C.keep
    have hst : (∃ c, gs = .fresh c) ∨ ∃ k l c p f cl, gs = .suspended k l c p f cl := by
      cases gs with
      | fresh c => exact .inl ⟨c, rfl⟩
      | suspended k l c p f cl => exact .inr ⟨k, l, c, p, f, cl, rfl⟩
      | running => exact hg0.elim
      | finished => exact hg0.elim
    refine pyNext_fn hr.1 (SB s.heap C.keep).nolimit hr.rec C.gen hgs hst (wk_later (ap.i L (.inl rfl)) (ap.i e (.inr (.inl rfl))) (ap.i it (.inr (.inr rfl))) C.keep hgs hg0) (fun v s' hy => ?_) (fun s' hn h' hk => ?_)
    · obtain ⟨s1, gs', rfl, hb, m, h0, _⟩ := hy
      cases h0
    · obtain ⟨s1, rfl, _, K⟩ := hn
      obtain ⟨C1, _⟩ := cs_wake (gs' := .finished) C hgs K ap.c ap.g (fun b o z q => by rw [ap.i b q] at z; cases z) rfl
      have hd : x.cps.toList.drop i = [] := List.drop_eq_nil_of_le (by simp; omega)
      rw [hd] at hbal
      obtain rfl : o = 0 := Nat.eq_of_beq_eq_true hbal
      obtain ⟨og, nm, qn, gg, cg, dg, sg⟩ := C1.gen
      exact wpAny_pure ⟨rfl, codeAny_block (wpAny_execs_nil (hR _ ⟨C1.fr.keeps fun o z => hk Lc o z, ⟨og, nm, qn, hk _ _ gg, cg, dg, sg⟩, fun b o z => hk b o (C1.keep b o z), C1.ok.trans (.heap _ _), C1.nL, C1.ng, C1.sz⟩))⟩
  | succ n ih =>
    intro i hi s o gs hbal C G hgs hgo
    refine codeAny_of_tree ?_
    show wpAny _ A ((forTurn cT (.ref ga) cBody [] ce).onRaise (fun x => do noteFrame x ce; theTreesLotGoes x)) _ _ s
    refine wpAny_noted ?_
    unfold forTurn
    refine wpAny_bind (wpAny_standAt (wpAny_bind (wpAny_onRaise ?_)))
    have hg0 := hgo (s.setGen g .running) G C.keep
    have hst : (∃ c, gs = .fresh c) ∨ ∃ k l c p f cl, gs = .suspended k l c p f cl := by
      cases gs with
      | fresh c => exact .inl ⟨c, rfl⟩
      | suspended k l c p f cl => exact .inr ⟨k, l, c, p, f, cl, rfl⟩
      | running => exact hg0.elim
      | finished => exact hg0.elim
    refine pyNext_fn hr.1 (SB s.heap C.keep).nolimit hr.rec C.gen hgs hst (wk_later (ap.i L (.inl rfl)) (ap.i e (.inr (.inl rfl))) (ap.i it (.inr (.inr rfl))) C.keep hgs hg0) (fun v s' hy => ?_) (fun s' hn h' hk => ?_)
    · obtain ⟨s1, gs', rfl, hb, m, h0, i', c, ta, p, tk, nn, hc, hi', rfl, gt, hta, K, G1, hgo'⟩ := hy
      obtain rfl : n = m := by omega
      obtain rfl : i = i' := by omega
      obtain ⟨C1, hgs1⟩ := cs_wake (gs' := gs') C hgs K ap.c ap.g (fun b o z q => by rw [ap.i b q] at z; cases z) hb
      have hta' : sI.heap.get? ta = none := by
        cases z : sI.heap.get? ta with
        | none => rfl
        | some ob => have := C.keep ta ob z; rw [hta] at this; cases this
      exact chk_yield SB hr RE ap (by omega) hbal (.inr rfl) C1 hgs1 hc gt hta' G1 hgo' (fun s o gs hb C G hg hgo => ih (i + 1) (by omega) s o gs hb C G hg hgo)
    · obtain ⟨s1, rfl, h0, K⟩ := hn
      cases h0

theorem chk_first {sI : Shared} {Lc ga L : Addr} {g : Nat} {ce genv : Env} {R : Result → Shared → Prop} (SB : StatB prog w faN T0 sI.heap.get?) (hr : Room A 13) (hd : A.depth + 40 < 900) (hu : A.units + 200 < 9000) (RE : REnv (at1 Lc) cEnv ce) (REg : REnv (at1 L) gEnv genv) (hco : genv.scope.isCoroutine = false)
    (has : x.cps.all (· < 128) = true) (hbal : bal x.cps.toList 0 = true) (hcs : ∀ i c : Nat, x.cps[i]? = some c → c = 40 ∨ c = 41) (hpos : 0 < x.cps.size) (hne : Lc ≠ L) (hnL : sI.heap.get? L = none)
    (C : CS sI Lc ga g (mC0 x) s) (F : Fr1 L (mA x) s.heap) (hgs : s.gens[g]? = some (.fresh (.func gB genv)))
    (hR : ∀ s', CS sI Lc ga g (mC x 0 .any) s' → R (.ok .next) s') : codeAny (model prog w) A (.forLoop cT (.ref ga) cBody [] ce) R s := by
  refine codeAny_of_tree ?_
  show wpAny _ A ((forTurn cT (.ref ga) cBody [] ce).onRaise (fun x => do noteFrame x ce; theTreesLotGoes x)) _ _ s
  refine wpAny_noted ?_
  unfold forTurn
  refine wpAny_bind (wpAny_standAt (wpAny_bind (wpAny_onRaise ?_)))
  refine pyNext_fn hr.1 (SB s.heap C.keep).nolimit hr.rec C.gen hgs (.inl ⟨_, rfl⟩)
    (wk_first (A := A.in1) SB hnL C.keep has hcs hpos REg hco hr.1 (by show A.depth + 13 + 20 < 900; omega) (by show A.units + 1 + 4 * 13 + 40 < 9000; omega) hgs F) (fun v s' hy => ?_) (fun s' hn h' hk => hn.elim)
  obtain ⟨e, it, t, gp, be, bi, ne, ni, s1, gs', rfl, hb, c, ta, p, tk, nn, hc, rfl, gt, hta, K, G1, hgo'⟩ := hy
  obtain ⟨oL, es, ep, gL, dL⟩ := C.fr.obj1
  obtain ⟨og, nm, qn, gg, cg, dg, sg⟩ := C.gen
  obtain ⟨oL2, es2, ep2, gL2, dL2⟩ := F.obj1
  have hgL : ga ≠ L := ne_of_data gg gL2 (by rw [dg, dL2]; intro q; cases q)
  have ap : Ap sI Lc ga L e it := by
    refine ⟨?_, ?_, ?_⟩
    · rintro (q | q | q)
      · exact hne q
      · rw [q, ne] at gL; cases gL
      · rw [q, ni] at gL; cases gL
    · rintro (q | q | q)
      · exact hgL q
      · rw [q, ne] at gg; cases gg
      · rw [q, ni] at gg; cases gg
    · rintro b (rfl | rfl | rfl)
      · exact hnL
      · exact be
      · exact bi
  have K' : Kb (gOwn L e it) (s.setGen g .running) s1 := K.weak fun _ q => .inl q
  obtain ⟨C1, hgs1⟩ := cs_wake (gs' := gs') C hgs K' ap.c ap.g (fun b o z q => by rw [ap.i b q] at z; cases z) hb
  have hta' : sI.heap.get? ta = none := by
    cases z : sI.heap.get? ta with
    | none => rfl
    | some ob => have := C.keep ta ob z; rw [hta] at this; cases this
  exact chk_yield (i := 0) (n := x.cps.size - 1) (o := 0) SB hr RE ap (by omega) (by simpa using hbal) (.inl ⟨rfl, rfl⟩) C1 hgs1 hc gt hta' G1 hgo' (fun s o gs hb C G hg hgo => chk_loop SB hr RE ap hR (x.cps.size - 1) 1 (by omega) s o gs hb C G hg hgo)
end
end Mine
end

noncomputable section
set_option autoImplicit false
namespace Mine
open PySem PySem.W
open PyProof.Rows (AllBare StrsAre IntsAre News Fr)

theorem Grows.push {a b : Array GenState} (x : Grows a b) {y : GenState} (hy : y.bare = true) : Grows a (b.push y) := by
  obtain ⟨l, rfl, hl⟩ := x
  refine ⟨l.push y, by simp, fun z hz => ?_⟩
  rcases Array.mem_push.mp hz with h | rfl
  · exact hl z h
  · exact hy
theorem Grows.size {a b : Array GenState} (x : Grows a b) : a.size ≤ b.size := by
  obtain ⟨l, rfl, hl⟩ := x
  simp

def gEnv1 : AEnv := ⟨genInfo.scope, 1, []⟩
def genSt (x : Str) : St := (one (mC0 x)).push (.ns [])
theorem gen_mk (x : Str) : mkEnv genInfo.scope [] (one (mC0 x)) = (gEnv1, genSt x) := by kernel_rfl
theorem gen_bind (x : Str) : bindAll gEnv1 [("addr", .str x)] (genSt x) = some (stO (bindAll gEnv1 [("addr", .str x)] (genSt x))) := by kernel_rfl
theorem gen_bind0 (x : Str) : (stO (bindAll gEnv1 [("addr", .str x)] (genSt x))).at 0 = some (.ns (mC0 x)) := by kernel_rfl
theorem gen_bind1 (x : Str) : (stO (bindAll gEnv1 [("addr", .str x)] (genSt x))).at 1 = some (.ns (mA x)) := by kernel_rfl
def chkSt : St := St.nil.push (.ns [])
theorem chk_mk : mkEnv cInfo.scope [] St.nil = (cEnv, chkSt) := by kernel_rfl
theorem chk_bind (x : Str) : bindAll cEnv [("addr", .str x)] chkSt = some (stO (bindAll cEnv [("addr", .str x)] chkSt)) := by kernel_rfl
theorem chk_bind0 (x : Str) : (stO (bindAll cEnv [("addr", .str x)] chkSt)).at 0 = some (.ns (mA x)) := by kernel_rfl
theorem chk_args (x : Str) : bindA cInfo [.str x] = some ([("addr", .str x)] : List (Str × AV)) := by kernel_rfl
theorem chk_info : inf 3 = some cInfo := by kernel_rfl

section
variable {prog : Program} {w : World} {base : Addr → Option Obj} {A : Around} {E : Value → Shared → Prop} {s : Shared} {x : Str}

theorem fd21_is : (fdAt w.params 21).isSome = true := by kernel_rfl

theorem fd21_facts : ∃ fd, fdAt w.params 21 = some fd ∧ fd.scope.isCoroutine = false ∧ fd.scope.isGenerator = true ∧ fd.body = .stmts gB ∧ codeIn (KF w.params) fd.code fd.qualname = true ∧ fd.scope = genInfo.scope ∧ fd.closure = [] ∧ fd.globals = mainGlobals ∧ fd.builtins = builtinsNs ∧
    ∀ v : Value, peek (KF w.params) ⟨prog, w.params⟩ (bindArgs fd ⟨[v], []⟩) = some ([("addr", v)] : List (Str × Value)) :=
  ⟨(fdAt w.params 21).get fd21_is, (Option.some_get fd21_is).symm, by kernel_rfl, by kernel_rfl, by kernel_rfl, by kernel_rfl, by kernel_rfl, by kernel_rfl, by kernel_rfl, by kernel_rfl, fun v => by kernel_rfl⟩
theorem gen_kind : genInfo.scope.kind = .function := by kernel_rfl
theorem gen_co : genInfo.scope.isCoroutine = false := by kernel_rfl
/-- the call that makes the generator -/
theorem gen_call {Lc : Addr} {ρ : Map} {t : Tok} {Q : Value → Shared → Prop} (X : (KF w.params).In s.heap) (NL : ∀ h : Heap, (∀ b o, base b = some o → h.get? b = some o) → h.NoLimit) (hr : A.depth < recursionLimit) (R : Rep faN base ρ (one (mC0 x)) s.heap) (eL : ρ 0 = some Lc)
    (h : ∀ (s' : Shared) (L : Addr) (genv : Env) (nm qn : Value), Grows s.gens s'.gens → s'.os = s.os → (∀ b o, base b = some o → s'.heap.get? b = some o) → Fr1 Lc (mC0 x) s'.heap → Fr1 L (mA x) s'.heap → Lc ≠ L → base L = none → REnv (at1 L) gEnv genv → genv.scope.isCoroutine = false →
      Q (.ref s'.heap.objs.size) { s' with gens := s'.gens.push (.fresh (.func gB genv)), toks := s'.toks + 1 + 1, heap := s'.heap.push { cls := .type "generator", data := .fields #[.int s'.gens.size 0, nm, qn] } }) :
    wpAny (model prog w) A (call (.ref 21) [.str x t]) Q E s := by
  obtain ⟨fd, e21, f1, f2, f3, f4, f5, f6, f7, f8, f9⟩ := fd21_facts (prog := prog) (w := w)
  obtain ⟨o, ho, hd⟩ := fdAt_spec e21
  refine wpAny_call (codeAny_call_generator hr (X _ _ ho) hd f1 f2 f3 (codeRec_of X f4) ?_)
  refine Looks.of_peek (M := model prog w) X (f9 (.str x t)) A.in1 _ _ s (fun _ _ z => z) ?_
  rw [f5, f6]
  refine newEnv_snd R .nil (gen_mk x) f7 f8 gen_kind fun ρ1 s1 genv l1 o1 R1 RE1 => ?_
  refine bind_snd (fa := faN) (ρ := ρ1) (bs := [("addr", .str x)]) (.cons ⟨t, rfl⟩ .nil) (gen_bind x) R1 RE1 fun s2 o2 R2 => ⟨?_, ?_⟩
  · exact NL _ R2.keep
  · have e0 : ρ1 0 = some Lc := l1 _ _ eL
    have e1 : ρ1 1 = some genv.locals := RE1.ns
    have hne : Lc ≠ genv.locals := fun q => by
      have := R2.inj 0 1 Lc ⟨_, gen_bind0 x, trivial⟩ ⟨_, gen_bind1 x, trivial⟩ e0 (q ▸ e1)
      cases this
    have hcells : genv.cells = [] := by
      have := RE1.cells
      generalize genv.cells = cc at this
      cases this
      rfl
    refine h s2 genv.locals genv _ _ (o1.gens.trans o2.gens) (o2.os.trans o1.os) R2.keep ?_ ?_ hne (R2.own 1 _ ⟨_, gen_bind1 x, trivial⟩ e1) ⟨RE1.scope, RE1.kind, rfl, RE1.globals, RE1.builtins, by rw [hcells]; exact .nil⟩ ?_
    · exact (R2.solo (gen_bind0 x) e0 (Blur.refl _) rfl).rebase (fun _ _ z => by cases z) fun _ _ _ _ => rfl
    · exact (R2.solo (gen_bind1 x) e1 (Blur.refl _) rfl).rebase (fun _ _ z => by cases z) fun _ _ _ _ => rfl
    · rw [RE1.scope]; exact gen_co
end
end Mine
end

noncomputable section
set_option autoImplicit false
namespace Mine
open PySem PySem.W
open PyProof.Rows (AllBare StrsAre IntsAre News Fr)

theorem bal_chars : ∀ {l : List Nat} {o : Nat}, bal l o = true → ∀ c ∈ l, c = 40 ∨ c = 41
  | [], _, _, _, h => by cases h
  | a :: r, o, hb, c, hc => by
    unfold bal at hb
    split at hb
    · rename_i q
      obtain rfl := Nat.eq_of_beq_eq_true q
      rw [Bool.and_eq_true] at hb
      rcases List.mem_cons.mp hc with rfl | hc
      · exact .inl rfl
      · exact bal_chars hb.2 c hc
    · split at hb
      · cases hb
      · rw [Bool.and_eq_true, Bool.and_eq_true] at hb
        obtain ⟨⟨h1, _⟩, h3⟩ := hb
        obtain rfl := Nat.eq_of_beq_eq_true h1
        rcases List.mem_cons.mp hc with rfl | hc
        · exact .inr rfl
        · exact bal_chars h3 c hc

section
variable {prog : Program} {w : World} {base : Addr → Option Obj} {A : Around} {E : Value → Shared → Prop} {s : Shared} {x : Str}

theorem nil_rep (h : Heap) : Rep faN h.get? (fun _ => none) St.nil h where
  obj i o e _ := by cases e
  inj _ _ _ _ _ e _ := by cases e
  lt _ _ e := by cases e
  own _ _ _ e := by cases e
  keep _ _ e := e

theorem kok_check {h₀ : Heap} (X : (KF w.params).In h₀) (SB : StatB prog w faN T0 h₀.get?) (hw : okWord x = true) : KOk prog w faN h₀.get? (3, [.str x], .bool true) := by
  intro k A E s ρ σ args args' Q hk hr R ra hrd h
  obtain rfl := rdX_str hrd
  cases ra with
  | cons r1 rr =>
  cases rr
  obtain ⟨t, rfl⟩ := r1
  unfold okWord at hw
  rw [Bool.and_eq_true, Bool.and_eq_true, Bool.and_eq_true] at hw
  obtain ⟨⟨⟨hst, hbal⟩, has⟩, hpos⟩ := hw
  have hpos' : 0 < x.cps.size := Nat.le_of_ble_eq_true hpos
  have hcs : ∀ i c : Nat, x.cps[i]? = some c → c = 40 ∨ c = 41 := fun i c e => bal_chars hbal c (by
    rw [← Array.getElem?_toList] at e
    exact List.mem_of_getElem? e)
  have SBs : StatB prog w faN T0 s.heap.get? := SB.over R.keep
  obtain ⟨hh, hdp, hun⟩ := hr
  obtain ⟨o, fd, g, hd, hcr, hbody, hsc, hcl, hgl, hbu, hco, hgen, hkd, hbind⟩ := ((SBs s.heap fun _ _ z => z).fn 3 cInfo chk_info).ok
  obtain ⟨bvs, rb, hbind⟩ := hbind [.str x] [("addr", .str x)] (chk_args x) (fun _ => none) [.str x t] (.cons ⟨t, rfl⟩ .nil)
  refine wpAny_call (codeAny_call_function (by unfold recursionLimit; omega) g hd hco hgen hbody hcr ?_)
  refine hbind A.in1 _ _ s (fun _ _ z => z) ?_
  rw [hcl, hsc]
  refine newEnv_snd (nil_rep s.heap) .nil chk_mk hgl hbu (by rw [← hsc]; exact hkd) fun ρ1 s1 ce l1 o1 R1 RE1 => ?_
  refine bind_snd (rb.mono l1) (chk_bind x) R1 RE1 fun s2 o2 R2 => ⟨(SBs s2.heap R2.keep).nolimit, ?_⟩
  refine codeAny_func ?_
  have hrA : Room (A.deeper ce) 13 := ⟨hh, by show A.depth + 1 + 13 < 900; omega, by show A.units + 3 + 4 * 13 < 9000; omega⟩
  have hr12 := hrA.less (j := 12) (by decide)
  have nL : s.heap.get? ce.locals = none := R2.own 0 _ ⟨_, chk_bind0 x, trivial⟩ RE1.ns
  have RE : REnv (at1 ce.locals) cEnv ce := ⟨RE1.scope, RE1.kind, rfl, RE1.globals, RE1.builtins, by
    have := RE1.cells
    generalize ce.cells = cc at this ⊢
    cases this
    exact .nil⟩
  have F2 : Fr1 ce.locals (mA x) s2.heap := (R2.solo (chk_bind0 x) RE1.ns (Blur.refl _) rfl).rebase (fun _ _ z => by cases z) fun _ _ _ _ => rfl
  have kb : ∀ {s s' : Shared}, Kb (· = ce.locals) s s' → ∀ {h' : Heap}, h'.get? ce.locals = none → (∀ b o, h'.get? b = some o → s.heap.get? b = some o) → ∀ b o, h'.get? b = some o → s'.heap.get? b = some o := fun K h' hn P b o z => K.keep b o (fun q => by rw [q, hn] at z; cases z) (P b o z)
  show wpAny _ (A.deeper ce) (execs cB ce) _ _ s2
  rw [cB_is]
  obtain ⟨σ3, c1, c2⟩ := c_start hst
  refine wpAny_execs_cons (fr_ex SBs R2.keep nL c1 c2 (Blur.refl _) rfl hr12 F2 RE fun s3 k3 F3 => ?_)
  have P3 := kb k3 nL R2.keep
  refine wpAny_execs_cons (fr_ex SBs P3 nL (c_s1 x) (c_s1_at x) (Blur.refl _) rfl hr12 F3 RE fun s4 k4 F4 => ?_)
  have P4 := kb k4 nL P3
  refine wpAny_execs_cons (wpAny_For ?_ (set_pure cI_set))
  have SB4 : StatB prog w faN T0 (butL s4.heap ce.locals) := SBs.over fun b o z => by
    unfold butL
    rw [if_neg (fun q => by rw [q, nL] at z; cases z)]
    exact P4 b o z
  have XB : ∀ h : Heap, (∀ b o, butL s4.heap ce.locals b = some o → h.get? b = some o) → (KF w.params).In h := fun h kk b o z => kk b o (by
    have z1 := R.keep b o (X b o z)
    unfold butL
    rw [if_neg (fun q => by rw [q, nL] at z1; cases z1)]
    exact P4 b o z1)
  have kp : ∀ h : Heap, (∀ b o, butL s4.heap ce.locals b = some o → h.get? b = some o) → ∃ k, (k = Keeper.frame ∨ k = Keeper.machine ∨ k = Keeper.boundFrame) ∧ W.Looks (model prog w) h (keeperOf (valF faN (.user 1))) k := fun h kk => by
    obtain ⟨fd, e21, _⟩ := fd21_facts (prog := prog) (w := w)
    obtain ⟨o, ho, hd⟩ := fdAt_spec e21
    refine ⟨.frame, .inl rfl, fun A Q E s hk hq => ?_⟩
    show wpAny _ A (load 21 >>= _) _ _ s
    refine wpAny_bind (wpAny_load (hk _ _ (XB h kk _ _ ho)) ?_)
    rw [hd]
    exact wpAny_pure hq
  have key := fun {Q : Value → Shared → Prop} {E : Value → Shared → Prop} => calling (E := E) (Q := Q) (ce := ce) (pos := caP (forI cFor)) (T := T0) (butL_snd SBs P4 nL 60) cI_plain cI_len (c_iter x) (c_addr x) hr12 F4.over RE kp
  rw [← cI_is] at key
  refine key fun ρ5 s5 vs5 l5 o5 R5 rs5 => ?_
  cases rs5 with
  | cons r5 rr5 =>
  cases rr5
  obtain ⟨t5, rfl⟩ := r5
  refine gen_call (XB s5.heap R5.keep) (fun h kk => (SB4 h kk).nolimit) hrA.rec R5 (l5 _ _ rfl) fun s6 L genv nm qn gg6 os6 keep6 Fc Fg hne bL REg hcog => ?_
  have nLg : s.heap.get? L = none := by
    have hb := bL
    unfold butL at hb
    rw [if_neg (Ne.symm hne)] at hb
    cases z : s.heap.get? L with
    | none => rfl
    | some ob => have := P4 L ob z; rw [hb] at this; cases this
  have P6 : ∀ b o, s.heap.get? b = some o → s6.heap.get? b = some o := fun b o z => keep6 b o (by
    unfold butL
    rw [if_neg (fun q => by rw [q, nL] at z; cases z)]
    exact P4 b o z)
  have gAll : Grows s.gens s6.gens := ((((o1.trans o2).trans k3.ok).trans k4.ok).trans o5).gens.trans gg6
  have osAll : s6.os = s.os := os6.trans ((((o1.trans o2).trans k3.ok).trans k4.ok).trans o5).os
  refine wpAny_pyIter_gen ⟨_, nm, qn, Heap.get?_push_size _ rfl, rfl, rfl, rfl⟩ ?_
  refine chk_first (sI := s) (L := L) (Lc := ce.locals) (g := s6.gens.size) SBs hrA (by show A.depth + 1 + 40 < 900; omega) (by show A.units + 3 + 200 < 9000; omega) RE REg hcog has hbal hcs hpos' hne nLg
    ⟨Fc.keeps fun o z => Heap.get?_push_of_some _ z, ⟨_, nm, qn, Heap.get?_push_size _ rfl, rfl, rfl, rfl⟩, fun b o z => Heap.get?_push_of_some _ (P6 b o z), ⟨osAll, gAll.push rfl⟩, nL, ?_, gAll.size⟩
    (Fg.keeps fun o z => Heap.get?_push_of_some _ z) ?_ fun s7 C7 => ?_
  · cases z : s.heap.get? s6.heap.objs.size with
    | none => rfl
    | some ob => exact absurd (Heap.lt_size (P6 _ ob z)) (Nat.lt_irrefl _)
  · show (s6.gens.push _)[s6.gens.size]? = _
    simp
  · refine wpAny_execs_cons ((butL_snd SBs C7.keep nL 60).ex (c_ret x) hr12 C7.fr.over RE fun ρ8 s8 f8 l8 o8 R8 hf8 => ?_)
    obtain ⟨v8, rfl, rv8⟩ := hf8
    cases rv8
    have k8 := butL_kb o8 R8
    exact h ρ (.bool true) s8 (.refl _) (C7.ok.trans o8) (R.grow (kb k8 nL C7.keep)) rfl

theorem check_all {h₀ : Heap} (X : (KF w.params).In h₀) (SB : StatB prog w faN T0 h₀.get?) : ∀ e ∈ tabCheck, KOk prog w faN h₀.get? e := by
  intro e m
  have := List.all_eq_true.mp words_ok e m
  obtain ⟨i, as, r⟩ := e
  split at this
  · rename_i x h1 h2
    dsimp only at h1 h2
    subst h1 h2
    rw [Bool.and_eq_true] at this
    obtain rfl := Nat.eq_of_beq_eq_true this.1
    intro k A E s ρ σ args args' Q a b c d e' f
    exact kok_check X SB this.2 a b c d e' f
  · cases this
end
end Mine
end

noncomputable section
open PySem PySem.W PyProof.Rows
set_option maxHeartbeats 2000000
namespace Mine
theorem eight (l : List Int) : ∃ n0 n1 n2 n3 n4 n5 n6 n7, List.take 8 (l ++ (List.replicate 8 [0]).flatten) = [n0, n1, n2, n3, n4, n5, n6, n7] := by
  have h : (List.take 8 (l ++ (List.replicate 8 [0]).flatten)).length = 8 := by
    rw [List.length_take, List.length_append]
    have : ((List.replicate 8 [(0 : Int)]).flatten).length = 8 := rfl
    omega
  generalize List.take 8 (l ++ (List.replicate 8 [0]).flatten) = r at h
  match r, h with
  | [a, b, c, d, e, f, g, i], _ => exact ⟨a, b, c, d, e, f, g, i, rfl⟩
theorem lt_nodup : ∀ {l : List Nat}, l.Pairwise (· < ·) → l.Nodup
  | _, h => h.imp fun h => Nat.ne_of_lt h
theorem pair_cons {a b : Nat} {l : List Nat} (h : a < b) (p : (b :: l).Pairwise (· < ·)) : (a :: b :: l).Pairwise (· < ·) := by
  refine List.pairwise_cons.mpr ⟨fun x hx => ?_, p⟩
  rcases List.mem_cons.mp hx with rfl | hx
  · exact h
  · exact Nat.lt_trans h ((List.pairwise_cons.mp p).1 x hx)
theorem nodup8 {L D : Nat} (h : L + 6 < D) : [L, L + 1, L + 1 + 1, L + 1 + 1 + 1, L + 1 + 1 + 1 + 1, L + 1 + 1 + 1 + 1 + 1, L + 1 + 1 + 1 + 1 + 1 + 1, D].Nodup :=
  lt_nodup (pair_cons (Nat.lt_succ_self _) (pair_cons (Nat.lt_succ_self _) (pair_cons (Nat.lt_succ_self _) (pair_cons (Nat.lt_succ_self _) (pair_cons (Nat.lt_succ_self _) (pair_cons (Nat.lt_succ_self _) (pair_cons h (List.pairwise_singleton _ _))))))))
theorem news8 {h₀ h : Heap} {L D : Addr} {mp : Str → Option Value} {od o1 o2 o3 o4 o5 o6 : Obj} {news : List (Addr × Obj)} (F : Fr h₀ L h mp) (N : News h₀ L h news) (e : h₀.objs.size = L)
    (md : (D, od) ∈ news) (m1 : (L + 1, o1) ∈ news) (m2 : (L + 1 + 1, o2) ∈ news) (m3 : (L + 1 + 1 + 1, o3) ∈ news) (m4 : (L + 1 + 1 + 1 + 1, o4) ∈ news) (m5 : (L + 1 + 1 + 1 + 1 + 1, o5) ∈ news) (m6 : (L + 1 + 1 + 1 + 1 + 1 + 1, o6) ∈ news) :
    ∀ a ∈ [L, L + 1, L + 1 + 1, L + 1 + 1 + 1, L + 1 + 1 + 1 + 1, L + 1 + 1 + 1 + 1 + 1, L + 1 + 1 + 1 + 1 + 1 + 1, D], h₀.get? a = none := by
  intro a ha
  simp only [List.mem_cons, List.not_mem_nil, or_false] at ha
  rcases ha with rfl | rfl | rfl | rfl | rfl | rfl | rfl | rfl
  · rw [← e]; exact fresh h₀
  · exact (N _ m1).2.2
  · exact (N _ m2).2.2
  · exact (N _ m3).2.2
  · exact (N _ m4).2.2
  · exact (N _ m5).2.2
  · exact (N _ m6).2.2
  · exact (N _ md).2.2
theorem bindL_one {kindOf : Str → Option NameKind} {v : Value} (hk : kindOf "script" = some .local) : ∀ x : Str, if x = ("script" : Str) then (bindL kindOf [("script", v)] (fun _ => none) x).isSome = true else bindL kindOf [("script", v)] (fun _ => none) x = none := by
  intro x
  unfold bindL bindL
  rw [if_pos hk]
  by_cases q : x = ("script" : Str)
  · rw [if_pos q, if_pos q]; rfl
  · rw [if_neg q, if_neg q]
theorem cell_at {h₀ h : Heap} {L c : Addr} {o : Obj} {v : Option Value} {news : List (Addr × Obj)} (N : News h₀ L h news) (m : (c, o) ∈ news) (d : o.data = .cell v) : h.IsCell c v := ⟨o, (N _ m).1, d⟩
theorem room_caller (ce : Env) : Room (callerA.deeper ce) 80 := by
  refine ⟨rfl, ?_, ?_⟩
  · show callerA.depth + 1 + 80 < 900
    decide +kernel
  · show callerA.units + 3 + 4 * 80 < 9000
    decide +kernel
end Mine
theorem Mine.main (HC : ∀ {prog : Program} {w : World} {h₀ : Heap} {mg mb : Str → Option Value}, (Mine.KF w.params).In h₀ → h₀.Ns mainGlobals mg → h₀.Ns builtinsNs mb → (∀ x : Str, x ≠ "__name__" → mb x = bootBuiltins x) → h₀.NoLimit → ∀ e ∈ Mine.tabCheck, Mine.KOk prog w Mine.faN h₀.get? e) : PySem.Challenge.rw_hn0003_01.Holds := Mine.hd (by
  lge_go0
  (all_goals try k_fold)
  iterate 39 ((first | (k_unfold; (try dsimp only)) | (k_end; wrow_close) | walk1 | (dsimp only; walk1) | (leave1; walk_say "STEP leave1"; try dsimp only) | skip))
  rename Fr _ _ _ _ => F
  rename News _ _ _ _ => N
  rename Top _ _ _ _ _ _ => T
  rename IntsAre _ _ => hw
  rename Frag.In _ _ => KX
  obtain ⟨n0, n1, n2, n3, n4, n5, n6, n7, e8⟩ := Mine.eight _
  rw [e8] at hw
  refine Mine.law_fin KX T.g T.b T.builtins T.nolimit (HC KX T.g T.b T.builtins T.nolimit) F.keep F.ns (Mine.bindL_one (by kernel_rfl))
    (Mine.cell_at N (by repeat (first | exact .head _ | apply List.Mem.tail)) (by assumption))
    (Mine.cell_at N (by repeat (first | exact .head _ | apply List.Mem.tail)) (by assumption))
    (Mine.cell_at N (by repeat (first | exact .head _ | apply List.Mem.tail)) (by assumption))
    (Mine.cell_at N (by repeat (first | exact .head _ | apply List.Mem.tail)) (by assumption))
    (Mine.cell_at N (by repeat (first | exact .head _ | apply List.Mem.tail)) (by assumption))
    (Mine.cell_at N (by repeat (first | exact .head _ | apply List.Mem.tail)) (by assumption))
    (N.get (.head _)) (by exact hw) (Mine.news8 F N rfl (.head _) (by repeat (first | exact .head _ | apply List.Mem.tail)) (by repeat (first | exact .head _ | apply List.Mem.tail)) (by repeat (first | exact .head _ | apply List.Mem.tail)) (by repeat (first | exact .head _ | apply List.Mem.tail)) (by repeat (first | exact .head _ | apply List.Mem.tail)) (by repeat (first | exact .head _ | apply List.Mem.tail))) (Mine.nodup8 (by omega))
    (Mine.room_caller _) (by kernel_rfl) rfl rfl rfl rfl rfl ?_
  intro s' o k
  show GoodWG _ _ _ _ _ (.ok (.ret (.bool true))) s'
  refine ⟨.inl ⟨_, .bool true, [], rfl, fun _ => rfl, .bool _, ?_, fun _ => ⟨.nil, fun a h => nomatch h⟩⟩, .of_keep k, o.os, o.gens.bare (.of_eq (by assumption))⟩
  first | rfl | kernel_rfl | wrow_post)
end

set_option maxHeartbeats 2000000 in
theorem PySem.Challenge.cw_hn0003_01_holds : PySem.Challenge.rw_hn0003_01.Holds :=
  Mine.main fun X G Bn B NL => Mine.check_all X (Mine.statB_of X G Bn B NL)
