import PyProof.Rows.All
import Wide.All
import OpenK.AllK
import Wide.FinOn
import PySem.Challenge.RW_xh0052_01
set_option Elab.async false
set_option linter.all false
set_option backward.match.sparseCases false
/-! Abs -/
section
set_option maxRecDepth 100000
namespace Mine
open PySem

/-- Value trees. -/
inductive V where
  | none
  | bool (b : Bool)
  | int (i : Int)
  | str (s : Str)
  | ty (n : String)
  | tup (vs : List V)
  | list (vs : List V)
  | dict (es : List (Int × V))
  | inst (v : V)
  | src (vs : List V)
  deriving Inhabited

noncomputable abbrev Loc := List (Str × Option (V × Bool))

noncomputable def getL (l : Loc) (x : Str) : Option (V × Bool) := match l.lookup x with
  | some (some p) => some p
  | _ => Option.none
noncomputable def setL : Loc → Str → Option (V × Bool) → Loc
  | [], _, _ => []
  | (y, q) :: r, x, p => if y == x then (y, p) :: r else (y, q) :: setL r x p

noncomputable def lookE : List (Int × V) → Int → Option V
  | [], _ => Option.none
  | (k, v) :: r, x => if k = x then some v else lookE r x
noncomputable def storeE : List (Int × V) → Int → V → List (Int × V)
  | [], x, u => [(x, u)]
  | (k, v) :: r, x, u => if k = x then (k, u) :: r else (k, v) :: storeE r x u

/-- sizes that the evaluator allows -/
noncomputable def small (n : Nat) : Bool := decide (n ≤ 100000)
noncomputable def fits (i : Int) : Bool := decide (-1000000000000000000 < i) && decide (i < 1000000000000000000)

noncomputable def repl : Nat → List V → List V
  | 0, _ => []
  | n + 1, l => l ++ repl n l

noncomputable def binV (op : Operator) (a b : V) : Option V := match op with
  | .Add => match a, b with
    | .int i, .int j => some (.int (i + j))
    | .list i, .list j => if small (i.length + j.length) then some (.list (i ++ j)) else Option.none
    | _, _ => Option.none
  | .Sub => match a, b with
    | .int i, .int j => some (.int (i - j))
    | _, _ => Option.none
  | .Mult => match a, b with
    | .int i, .int j => if fits i || fits j then some (.int (i * j)) else Option.none
    | .list i, .int j => if decide (0 ≤ j) && decide (j ≤ 100) && small (i.length * j.toNat) then some (.list (repl j.toNat i)) else Option.none
    | _, _ => Option.none
  | .FloorDiv => match a, b with
    | .int i, .int j => if decide (0 < j) && decide (j < 1000000000) then some (.int (i.fdiv j)) else Option.none
    | _, _ => Option.none
  | .Mod => match a, b with
    | .int i, .int j => if decide (j ≠ 0) then some (.int (i.fmod j)) else Option.none
    | _, _ => Option.none
  | .Pow => match a, b with
    | .int i, .int j => if fits i && decide (0 ≤ j) && decide (j ≤ 100) then some (.int (i ^ j.toNat)) else Option.none
    | _, _ => Option.none
  | _ => Option.none

noncomputable def intsV : List V → Option (List Int)
  | [] => some []
  | .int i :: r => (intsV r).map (i :: ·)
  | _ => Option.none

noncomputable def intE : List (Int × V) → Bool
  | [] => true
  | (_, .int _) :: r => intE r
  | _ => false

noncomputable def subE : List (Int × V) → List (Int × V) → Bool
  | [], _ => true
  | (k, .int i) :: r, es => (match lookE es k with | some (.int j) => i == j && subE r es | _ => false)
  | _, _ => false

/-- == of dicts whose values are ints -/
noncomputable def eqD (a b : List (Int × V)) : Bool := a.length == b.length && subE a b

/-- == of two ints, of two dicts of ints -/
noncomputable def eq1 : V → V → Option Bool
  | .int a, .int b => some (a == b)
  | .dict a, .dict b => if intE a && intE b then some (eqD a b) else Option.none
  | _, _ => Option.none
noncomputable def eqAll : List V → List V → Option Bool
  | [], [] => some true
  | a :: r, b :: t => do
    let x ← eq1 a b
    let y ← eqAll r t
    some (x && y)
  | _, _ => Option.none

noncomputable def bothI (f : List Int → List Int → Bool) (a b : Option (List Int)) : Option Bool := match a, b with
  | some x, some y => some (f x y)
  | _, _ => Option.none
noncomputable def cmpV (op : CmpOp) (a b : V) : Option Bool := match op with
  | .Eq => match a, b with
    | .int i, .int j => some (i == j)
    | .dict i, .dict j => if intE i && intE j then some (eqD i j) else Option.none
    | .list i, .list j => bothI (fun x y => decide (x = y)) (intsV i) (intsV j)
    | .tup i, .tup j => eqAll i j
    | _, _ => Option.none
  | .NotEq => match a, b with
    | .int i, .int j => some (i != j)
    | .dict i, .dict j => if intE i && intE j then some (!eqD i j) else Option.none
    | .tup i, .tup j => bothI (fun x y => !decide (x = y)) (intsV i) (intsV j)
    | _, _ => Option.none
  | .Lt => match a, b with
    | .int i, .int j => some (decide (i < j))
    | .str i, .str j => some (decide (i.cps.toList < j.cps.toList))
    | _, _ => Option.none
  | .Gt => match a, b with
    | .int i, .int j => some (decide (j < i))
    | .str i, .str j => some (decide (j.cps.toList < i.cps.toList))
    | _, _ => Option.none
  | .Is => match a, b with
    | .none, .none => some true
    | .dict _, .none => some false
    | .tup _, .none => some false
    | _, _ => Option.none
  | .In => match a, b with
    | .int i, .dict j => some (lookE j i).isSome
    | _, _ => Option.none
  | .NotIn => match a, b with
    | .int i, .dict j => some (!(lookE j i).isSome)
    | _, _ => Option.none
  | _ => Option.none

noncomputable def itemV : V → V → Option V
  | .list vs, .int i => if decide (0 ≤ i) && decide (i < 1000000) then vs[i.toNat]? else Option.none
  | .tup vs, .int i => if decide (0 ≤ i) && decide (i < 1000000) then vs[i.toNat]? else Option.none
  | .dict es, .int k => lookE es k
  | .str s, .int i => if decide (0 ≤ i) && decide (i < 1000000) then (s.cps[i.toNat]?).map fun c => .str ⟨#[c]⟩ else Option.none
  | _, _ => Option.none

/-- v[lo:] of a str, v[:hi] of a list -/
noncomputable def cutV (v : V) (lo hi : Option V) : Option V := match v with
  | .str s => match lo, hi with
    | some (.int i), Option.none => if i = 1 then (if decide (1 ≤ s.cps.size) && small s.cps.size then some (.str ⟨(s.cps.toList.drop 1).toArray⟩) else Option.none) else Option.none
    | _, _ => Option.none
  | .list vs => match lo, hi with
    | Option.none, some (.int k) => if decide (0 ≤ k) && decide (k < 1000000) && small vs.length then some (.list (vs.take k.toNat)) else Option.none
    | _, _ => Option.none
  | .src vs => match lo, hi with
    | Option.none, some (.int k) => if decide (0 ≤ k) && decide (k < 1000000) && small vs.length then some (.list (vs.take k.toNat)) else Option.none
    | _, _ => Option.none
  | _ => Option.none

noncomputable def insI (x : Int) : List Int → List Int
  | [] => [x]
  | y :: r => if x ≤ y then x :: y :: r else y :: insI x r
noncomputable def sortI : List Int → List Int
  | [] => []
  | x :: r => insI x (sortI r)

noncomputable def typeIs : V → String → Option Bool
  | .int _, "tuple" => some false
  | .int _, "bool" => some false
  | _, _ => Option.none

noncomputable def bIsi : List V → Option V
  | [v, .ty t] => (typeIs v t).map .bool
  | _ => Option.none
noncomputable def b1 (f : V → Option V) : List V → Option V
  | [v] => f v
  | _ => Option.none
noncomputable def builtV (g : String) (vs : List V) : Option V :=
  if g = "isinstance" then bIsi vs
  else if g = "list" then b1 (fun v => match v with
    | .dict es => if small es.length then some (.list (es.map fun e => .int e.1)) else Option.none
    | _ => Option.none) vs
  else if g = "dict" then b1 (fun v => match v with
    | .dict es => if small es.length then some (.dict es) else Option.none
    | _ => Option.none) vs
  else if g = "sum" then b1 (fun v => match v with
    | .list vs => (intsV vs).bind fun l => some (.int l.sum)
    | _ => Option.none) vs
  else if g = "len" then b1 (fun v => match v with
    | .list vs => if small vs.length then some (.int vs.length) else Option.none
    | .dict es => if small es.length then some (.int es.length) else Option.none
    | _ => Option.none) vs
  else if g = "int" then b1 (fun v => match v with
    | .bool b => some (.int (if b then 1 else 0))
    | _ => Option.none) vs
  else if g = "str" then b1 (fun v => match v with
    | .int i => if decide (0 ≤ i) && decide (i < 1000000000) then some (.str (Str.ofString (toString i))) else Option.none
    | _ => Option.none) vs
  else if g = "sorted" then b1 (fun v => match v with
    | .list vs => (intsV vs).bind fun l => if decide (l.length < 64) then some (.list ((sortI l).map .int)) else Option.none
    | _ => Option.none) vs
  else Option.none

inductive Fl where
  | next
  | ret (v : V) (own : Bool)

structure FD where
  params : List Str
  body : List Stmt
  scope : Scope

/-- One level of the evaluator. -/
structure Ev where
  ev : Scope → Expr → Loc → Option (V × Bool × Loc)
  tst : Scope → Expr → Loc → Option (Bool × Loc)
  exec : Scope → Stmt → Loc → Option (Fl × Loc)
  execs : Scope → List Stmt → Loc → Option (Fl × Loc)
  call : Str → List V → Option (V × Bool)

noncomputable def Ev.bot : Ev := ⟨fun _ _ _ => Option.none, fun _ _ _ => Option.none, fun _ _ _ => Option.none, fun _ _ _ => Option.none, fun _ _ => Option.none⟩

noncomputable def isVar : Option NameKind → Bool
  | some .local | some .cell | some .free => true
  | _ => false

section
variable (R : Ev) (ft : Str → Option FD)

/-- the value, its ownership dropped: a name that owns what it holds holds it still, but may not change it any more -/
noncomputable def val (sc : Scope) (e : Expr) (loc : Loc) : Option (V × Loc) :=
  match e with
  | .Name x _ => if isVar (sc.names.lookup x) then (getL loc x).map fun p => (p.1, if p.2 then setL loc x (some (p.1, false)) else loc) else (R.ev sc e loc).map fun (v, _, l) => (v, l)
  | _ => (R.ev sc e loc).map fun (v, _, l) => (v, l)

/-- a look: a name keeps what it owns -/
noncomputable def pk (sc : Scope) (e : Expr) (loc : Loc) : Option (V × Loc) :=
  match e with
  | .Name x _ => if isVar (sc.names.lookup x) then (getL loc x).map fun p => (p.1, loc) else val R sc e loc
  | _ => val R sc e loc

/-- one end of a slice -/
noncomputable def part (sc : Scope) (x : Option Expr) (loc : Loc) : Option (Option V × Loc) := match x with
  | some x => (pk R sc x loc).map fun p => (some p.1, p.2)
  | Option.none => some (Option.none, loc)

noncomputable def vals (sc : Scope) : List Expr → Loc → Option (List V × Loc)
  | [], loc => some ([], loc)
  | e :: r, loc => do
    let (v, loc) ← val R sc e loc
    let (vs, loc) ← vals sc r loc
    some (v :: vs, loc)
noncomputable def pks (sc : Scope) : List Expr → Loc → Option (List V × Loc)
  | [], loc => some ([], loc)
  | e :: r, loc => do
    let (v, loc) ← pk R sc e loc
    let (vs, loc) ← pks sc r loc
    some (v :: vs, loc)
/-- the values with their ownership -/
noncomputable def evos (sc : Scope) : List Expr → Loc → Option (List (V × Bool) × Loc)
  | [], loc => some ([], loc)
  | e :: r, loc => do
    let (v, b, loc) ← R.ev sc e loc
    let (vs, loc) ← evos sc r loc
    some ((v, b) :: vs, loc)
noncomputable def pairs (sc : Scope) : List (Option Expr) → List Expr → Loc → Option (List (Int × V) × Loc)
  | [], [], loc => some ([], loc)
  | some k :: kr, e :: r, loc => do
    let (kv, loc) ← val R sc k loc
    let (v, loc) ← val R sc e loc
    let (es, loc) ← pairs sc kr r loc
    match kv with
    | .int i => some ((i, v) :: es, loc)
    | _ => Option.none
  | _, _, _ => Option.none

noncomputable def kindAt (sc : Scope) (x : Str) : Option NameKind := sc.names.lookup x

/-- store a value under a name -/
noncomputable def putN (sc : Scope) (x : Str) (v : V) (b : Bool) (loc : Loc) : Option Loc :=
  if (loc.lookup x).isSome then
    match kindAt sc x with
    | some .local => some (setL loc x (some (v, b)))
    | some .cell => some (setL loc x (some (v, false)))
    | _ => Option.none
  else Option.none

noncomputable def nameOf : Expr → Option Str
  | .Name x _ => some x
  | _ => Option.none

noncomputable def putNs (sc : Scope) : List Expr → List (V × Bool) → Loc → Option Loc
  | [], [], loc => some loc
  | .Name x _ :: r, (v, b) :: vs, loc => do
    let loc ← putN sc x v b loc
    putNs sc r vs loc
  | _, _, _ => Option.none

noncomputable def itemsOf : V → Option (List V)
  | .list vs => some vs
  | .tup vs => some vs
  | _ => Option.none

/-- a for's (or a comprehension's) target -/
noncomputable def target (sc : Scope) (t : Expr) (v : V) (loc : Loc) : Option Loc :=
  match t with
  | .Name x _ => putN sc x v false loc
  | .Tuple ts _ _ => match v with
    | .tup vs => putNs sc ts (vs.map fun v => (v, false)) loc
    | _ => Option.none
  | _ => Option.none

noncomputable def globN (sc : Scope) (x : Str) : Bool := kindAt sc x == some .globalImplicit

noncomputable def upTo (n : Nat) : List V := (List.range n).map fun (i : Nat) => V.int (i : Int)
noncomputable def enumFrom : Int → List V → List V
  | _, [] => []
  | i, v :: r => .tup [.int i, v] :: enumFrom (i + 1) r

noncomputable def plainItems (v : V) : Option (List V) := match v with
  | .list vs => some vs
  | .tup vs => some vs
  | .dict es => some (es.map fun e => .int e.1)
  | _ => Option.none

inductive ItKind where
  | plain | range | enum | items | values
  deriving DecidableEq

/-- what kind of iterable the expression is, by its spelling -/
noncomputable def itKind (sc : Scope) (e : Expr) : ItKind :=
  match e with
  | .Call (.Name g _) [_] [] _ =>
    if globN sc g && g == Str.ofString "range" then .range
    else if globN sc g && g == Str.ofString "enumerate" then .enum
    else .plain
  | .Call (.Attribute (.Name _ _) m ap) [] [] p =>
    if (ap.endLine == p.line) == false then .plain
    else if m == Str.ofString "items" then .items
    else if m == Str.ofString "values" then .values
    else .plain
  | _ => .plain

/-- pairs that the iterator owns are taken apart -/
noncomputable def tgtOk (sc : Scope) (it t : Expr) : Bool := match itKind sc it with
  | .enum | .items => (match t with | .Tuple _ _ _ => true | _ => false)
  | _ => true

/-- the items of an iterable, in order -/
noncomputable def iterK (sc : Scope) (e : Expr) (loc : Loc) : ItKind → Option (List V × Loc)
  | .range => match e with
    | .Call _ [a] _ _ => do
      let (v, loc) ← val R sc a loc
      match v with
      | .int n => if decide (0 ≤ n) && decide (n ≤ 100) then some (upTo n.toNat, loc) else Option.none
      | _ => Option.none
    | _ => Option.none
  | .enum => match e with
    | .Call _ [a] _ _ => do
      let (v, loc) ← val R sc a loc
      match v with
      | .list vs => if small vs.length then some (enumFrom 0 vs, loc) else Option.none
      | _ => Option.none
    | _ => Option.none
  | .items => match e with
    | .Call (.Attribute o _ _) _ _ _ => do
      let (v, loc) ← val R sc o loc
      match v with
      | .dict es => if small es.length then some (es.map fun e => .tup [.int e.1, e.2], loc) else Option.none
      | _ => Option.none
    | _ => Option.none
  | .values => match e with
    | .Call (.Attribute o _ _) _ _ _ => do
      let (v, loc) ← val R sc o loc
      match v with
      | .dict es => if small es.length then some (es.map (·.2), loc) else Option.none
      | _ => Option.none
    | _ => Option.none
  | .plain => do
    let (v, loc) ← val R sc e loc
    let vs ← plainItems v
    if small vs.length then some (vs, loc) else Option.none
noncomputable def iter (sc : Scope) (e : Expr) (loc : Loc) : Option (List V × Loc) := iterK R sc e loc (itKind sc e)

noncomputable def forL (f : V → Loc → Option (Fl × Loc)) : List V → Loc → Option (Fl × Loc)
  | [], loc => some (.next, loc)
  | v :: r, loc => match f v loc with
    | some (.next, loc') => forL f r loc'
    | x => x

noncomputable def compL (f : V → Loc → Option (List V × Loc)) : List V → Loc → Option (List V × Loc)
  | [], loc => some ([], loc)
  | v :: r, loc => do
    let (a, loc) ← f v loc
    let (b, loc) ← compL f r loc
    some (a ++ b, loc)

noncomputable def tests (sc : Scope) : List Expr → Loc → Option (Bool × Loc)
  | [], loc => some (true, loc)
  | c :: r, loc => do
    let (b, loc) ← R.tst sc c loc
    if b then tests sc r loc else some (false, loc)

noncomputable def emitV (rec : List V → Loc → Option (List V × Loc)) (sc : Scope) (elt : Expr) (rest : List Comprehension) (loc : Loc) : Option (List V × Loc) :=
  match rest with
  | [] => do
    let (v, loc) ← val R sc elt loc
    some ([v], loc)
  | g' :: _ => if tgtOk sc g'.iter g'.target then do
      let (items', loc) ← iter R sc g'.iter loc
      rec items' loc
    else Option.none
noncomputable def lapV (rec : List V → Loc → Option (List V × Loc)) (sc : Scope) (elt : Expr) (g : Comprehension) (rest : List Comprehension) (v : V) (loc : Loc) : Option (List V × Loc) := do
  let loc ← target sc g.target v loc
  let (ok, loc) ← tests R sc g.ifs loc
  if ok then emitV R rec sc elt rest loc else some ([], loc)

noncomputable def compG (sc : Scope) (elt : Expr) : List Comprehension → List V → Loc → Option (List V × Loc)
  | [], _, _ => Option.none
  | g :: rest, items, loc => compL (lapV R (compG sc elt rest) sc elt g rest) items loc

/-- the comprehension's names at its start: its own hold nothing, the free ones what they hold outside -/
noncomputable def compLoc (loc : Loc) : List (Str × NameKind) → Loc
  | [] => []
  | (n, k) :: r => match k with
    | .local => (n, Option.none) :: compLoc loc r
    | .free => (n, match getL loc n with | some (v, false) => some (v, false) | _ => Option.none) :: compLoc loc r
    | _ => compLoc loc r

noncomputable def compOk (sc scope : Scope) : Bool :=
  scope.kind == .function && sc.kind == .function &&
  scope.names.all (fun (_, k) => k == .local || k == .free || k == .globalImplicit) &&
  scope.names.all (fun (n, k) => k != .free || sc.names.lookup n == some .cell) &&
  scope.names.all (fun (n, k) => scope.names.lookup n == some k && n != Str.ofString "__debug__")

noncomputable def listComp (sc : Scope) (elt : Expr) (gens : List Comprehension) (scope : Scope) (loc : Loc) : Option (V × Loc) :=
  match gens with
  | [] => Option.none
  | g :: rest => if compOk sc scope && tgtOk sc g.iter g.target && gens.all (fun g => g.is_async == 0) && scope.names.all (fun (n, k) => k != .free || (loc.lookup n).isSome) then do
      let (items, loc) ← iter R sc g.iter loc
      let (vs, _) ← compG R scope elt (g :: rest) items (compLoc loc scope.names)
      if small vs.length then some (.list vs, loc) else Option.none
    else Option.none

noncomputable def builtNames : List String := ["isinstance", "sum", "len", "sorted", "list", "dict", "int", "str", "range", "enumerate", "tuple", "bool"]
/-- the built-in's name -/
noncomputable def builtOf (g : Str) : Option String := builtNames.find? fun b => g == Str.ofString b
noncomputable def tyOf (g : Str) : Option String := (builtOf g).filter fun b => b == "tuple" || b == "bool"

noncomputable def callV (sc : Scope) (f : Expr) (args : List Expr) (pos : Pos) (loc : Loc) : Option (V × Bool × Loc) :=
  match f with
  | .Name g _ =>
    if globN sc g && !args.isEmpty && g != Str.ofString "compare" then
      if g == Str.ofString "TupleComp" then
        match args with
        | [a] => do
          let (v, loc) ← val R sc a loc
          some (.inst v, false, loc)
        | _ => Option.none
      else match ft g with
        | some _ => do
          let (vs, loc) ← vals R sc args loc
          let (v, b) ← R.call g vs
          some (v, b, loc)
        | Option.none => do
          let b ← builtOf g
          let (vs, loc) ← pks R sc args loc
          let v ← builtV b vs
          some (v, false, loc)
    else Option.none
  | .Attribute (.Name ox xp) name ap =>
    let o : Expr := .Name ox xp
    if (ap.endLine == pos.line) == false then Option.none
    else if name == Str.ofString "get" then
      match args with
      | [a, d] => do
        let (ov, loc) ← pk R sc o loc
        let (k, loc) ← val R sc a loc
        let (dv, loc) ← val R sc d loc
        match ov, k with
        | .dict es, .int k => some ((lookE es k).getD dv, false, loc)
        | _, _ => Option.none
      | _ => Option.none
    else if name == Str.ofString "compare" && !args.isEmpty && decide (args.length < 20) then do
      let (ov, loc) ← val R sc o loc
      let (vs, loc) ← vals R sc args loc
      match ov with
      | .inst _ => do
        let (v, b) ← R.call (Str.ofString "compare") (ov :: vs)
        some (v, b, loc)
      | _ => Option.none
    else Option.none
  | _ => Option.none

/-- the name owns what it holds -/
noncomputable def ownsN (loc : Loc) (x : Str) : Bool := match getL loc x with
  | some (_, true) => true
  | _ => false

noncomputable def evStep (sc : Scope) (e : Expr) (loc : Loc) : Option (V × Bool × Loc) :=
  match e with
  | .Constant c _ _ => match c with
    | .int i => some (.int i, false, loc)
    | .str s => some (.str s, false, loc)
    | .none => some (.none, false, loc)
    | .bool b => some (.bool b, false, loc)
    | _ => Option.none
  | .Name x _ =>
    match kindAt sc x with
    | some .local | some .cell | some .free => match getL loc x with
      | some (v, true) => some (v, true, setL loc x Option.none)
      | some (v, false) => some (v, false, loc)
      | Option.none => Option.none
    | some .globalImplicit => (tyOf x).map fun b => (.ty b, false, loc)
    | _ => Option.none
  | .BinOp l op r _ => do
    let (a, loc) ← pk R sc l loc
    let (b, loc) ← pk R sc r loc
    let v ← binV op a b
    some (v, false, loc)
  | .UnaryOp .USub x _ => do
    let (a, loc) ← pk R sc x loc
    match a with
    | .int i => some (.int (-i), false, loc)
    | _ => Option.none
  | .IfExp t b o _ => do
    let (c, loc) ← R.tst sc t loc
    if c then R.ev sc b loc else R.ev sc o loc
  | .Dict keys vs _ => do
    let (es, loc) ← pairs R sc keys vs loc
    if decide (es.length ≤ 15) then some (.dict (es.foldl (fun d e => storeE d e.1 e.2) []), true, loc) else Option.none
  | .List elts _ => do
    let (vs, loc) ← vals R sc elts loc
    if small vs.length then some (.list vs, true, loc) else Option.none
  | .Tuple elts _ _ => do
    let (vs, loc) ← vals R sc elts loc
    if small vs.length then some (.tup vs, false, loc) else Option.none
  | .ListComp elt gens scope _ => do
    let (v, loc) ← listComp R sc elt gens scope loc
    some (v, false, loc)
  | .Compare l [op] [r] _ => do
    let (a, loc) ← pk R sc l loc
    let (b, loc) ← pk R sc r loc
    let v ← cmpV op a b
    some (.bool v, false, loc)
  | .Call f args [] p => callV R ft sc f args p loc
  | .Attribute (.Name ox xp) attr _ => let o : Expr := .Name ox xp; if attr == Str.ofString "comp_select_list" then do
      let (a, loc) ← pk R sc o loc
      match a with
      | .inst v => some (v, false, loc)
      | _ => Option.none
    else Option.none
  | .Subscript v (.Slice lo hi Option.none _) _ => do
    let (a, loc) ← pk R sc v loc
    let (l, loc) ← part R sc lo loc
    let (h, loc) ← part R sc hi loc
    let r ← cutV a l h
    some (r, false, loc)
  | .Subscript v i _ => do
    let (a, loc) ← pk R sc v loc
    let (k, loc) ← pk R sc i loc
    let r ← itemV a k
    some (r, false, loc)
  | _ => Option.none

noncomputable def allT (sc : Scope) : List Expr → Loc → Option (Bool × Loc)
  | [], loc => some (true, loc)
  | e :: r, loc => do
    let (b, loc) ← R.tst sc e loc
    if b then allT sc r loc else some (false, loc)
noncomputable def anyT (sc : Scope) : List Expr → Loc → Option (Bool × Loc)
  | [], loc => some (false, loc)
  | e :: r, loc => do
    let (b, loc) ← R.tst sc e loc
    if b then some (true, loc) else anyT sc r loc

noncomputable def tstStep (sc : Scope) (e : Expr) (loc : Loc) : Option (Bool × Loc) :=
  match e with
  | .BoolOp .And es _ => allT R sc es loc
  | .BoolOp .Or es _ => anyT R sc es loc
  | .Compare l [op] [r] _ => do
    let (a, loc) ← pk R sc l loc
    let (b, loc) ← pk R sc r loc
    let v ← cmpV op a b
    some (v, loc)
  | .Call f args [] p => do
    let (v, loc) ← val R sc (.Call f args [] p) loc
    match v with
    | .bool b => some (b, loc)
    | _ => Option.none
  | _ => Option.none

/-- x[i] = v, x a local name that owns what it holds -/
noncomputable def putItem (sc : Scope) (x : Str) (i : V) (v : V) (loc : Loc) : Option Loc :=
  if kindAt sc x == some .local then
    match getL loc x, i with
    | some (.dict es, true), .int k => if small es.length then some (setL loc x (some (.dict (storeE es k v), true))) else Option.none
    | some (.list vs, true), .int k => if decide (0 ≤ k) && decide (k.toNat < vs.length) && small vs.length then some (setL loc x (some (.list (vs.set k.toNat v), true))) else Option.none
    | _, _ => Option.none
  else Option.none

noncomputable def execStep (sc : Scope) (st : Stmt) (loc : Loc) : Option (Fl × Loc) :=
  match st with
  | .Assign [.Name x _] e _ => do
    let (v, b, loc) ← R.ev sc e loc
    let loc ← putN sc x v b loc
    some (.next, loc)
  | .Assign [.Tuple ts _ _] (.Tuple es _ _) _ =>
    if ts.length == es.length && (ts.map nameOf).all Option.isSome && decide ((ts.filterMap nameOf).Nodup) && decide (es.length ≤ 100) && !es.all (constantsAlone 8) then do
      let (vs, loc) ← evos R sc es loc
      let loc ← putNs sc ts vs loc
      some (.next, loc)
    else Option.none
  | .Assign [.Tuple ts _ _] e _ => do
    let (v, loc) ← val R sc e loc
    let vs ← itemsOf v
    let loc ← putNs sc ts (vs.map fun v => (v, false)) loc
    some (.next, loc)
  | .Assign [.Subscript (.Name x _) i _] e _ => do
    let (v, loc) ← val R sc e loc
    if ownsN loc x then do
      let (k, loc) ← pk R sc i loc
      let loc ← putItem sc x k v loc
      some (.next, loc)
    else Option.none
  | .AugAssign (.Name x _) .Add e _ => do
    match kindAt sc x, getL loc x with
    | some .local, some (.int a, false) => do
      let (v, loc) ← pk R sc e loc
      match v with
      | .int b => do
        let loc ← putN sc x (.int (a + b)) false loc
        some (.next, loc)
      | _ => Option.none
    | _, _ => Option.none
  | .AugAssign (.Subscript (.Name x _) i _) .Add e _ => do
    match kindAt sc x, getL loc x with
    | some .local, some (ov, true) => do
      let (k, loc) ← pk R sc i loc
      let old ← itemV ov k
      let (v, loc) ← pk R sc e loc
      match old, v with
      | .int a, .int b => do
        let loc ← putItem sc x k (.int (a + b)) loc
        some (.next, loc)
      | _, _ => Option.none
    | _, _ => Option.none
  | .For t it body [] _ => if tgtOk sc it t then do
      let (items, loc) ← iter R sc it loc
      forL (fun v loc => do
        let loc ← target sc t v loc
        R.execs sc body loc) items loc
    else Option.none
  | .If t a b _ => do
    let (c, loc) ← R.tst sc t loc
    if c then R.execs sc a loc else R.execs sc b loc
  | .Return (some e) _ => do
    let (v, b, loc) ← R.ev sc e loc
    some (.ret v b, loc)
  | _ => Option.none

noncomputable def execsStep (sc : Scope) (l : List Stmt) (loc : Loc) : Option (Fl × Loc) :=
  match l with
  | [] => some (.next, loc)
  | s :: r => match R.exec sc s loc with
    | some (.next, loc') => R.execs sc r loc'
    | x => x

noncomputable def bindL (params : List Str) (vs : List V) (n : Str) : Option (V × Bool) :=
  ((params.zip vs).lookup n).map fun v => (v, false)

noncomputable def fLoc (fd : FD) (vs : List V) : Loc :=
  fd.scope.names.filterMap fun (n, k) => if k == .local || k == .cell then some (n, bindL fd.params vs n) else Option.none

noncomputable def okScope (sc : Scope) : Bool :=
  sc.kind == .function && !sc.isGenerator && !sc.isCoroutine &&
  sc.names.all (fun (n, k) => (k == .local || k == .cell || k == .globalImplicit) && sc.names.lookup n == some k && n != Str.ofString "__debug__")

noncomputable def callStep (g : Str) (vs : List V) : Option (V × Bool) :=
  match ft g with
  | some fd => if okScope fd.scope && fd.params.length == vs.length && decide fd.params.Nodup && fd.params.all (fun p => kindAt fd.scope p == some .local || kindAt fd.scope p == some .cell) then
      match R.execs fd.scope fd.body (fLoc fd vs) with
      | some (.ret v b, _) => some (v, b)
      | _ => Option.none
    else Option.none
  | Option.none => Option.none

noncomputable def step : Ev where
  ev := evStep R ft
  tst := tstStep R
  exec := execStep R
  execs := execsStep R
  call := callStep R ft
end

noncomputable def Ev.at (ft : Str → Option FD) : Nat → Ev
  | 0 => Ev.bot
  | n + 1 => step (Ev.at ft n) ft

/-- the defs of the program -/
noncomputable def fdOf : Stmt → List (Str × FD)
  | .FunctionDef name args body _ _ _ scope _ _ _ => [(name, ⟨args.args.map (·.arg), body, scope⟩)]
  | _ => []
noncomputable def fdsOf : Stmt → List (Str × FD)
  | .ClassDef _ _ _ body _ _ _ _ _ _ _ => (body.flatMap fdOf).filter (fun p => p.1 == Str.ofString "compare")
  | s => fdOf s
noncomputable def defs : List (Str × FD) := PySem.Challenge.pw_xh0052_01.main.body.flatMap fdsOf
noncomputable def ft (g : Str) : Option FD := defs.lookup g

noncomputable def lawAt (n : Nat) (ns : List Int) : Option (V × Bool) := (Ev.at ft n).call (Str.ofString "law") [.src (ns.map .int)]

theorem nle {a b n : Nat} (h : a ≤ b) : a ≤ n + b := Nat.le_trans h (Nat.le_add_left b n)
theorem vals_nil {R : Ev} {sc : Scope} {loc : Loc} : vals R sc [] loc = some ([], loc) := rfl
theorem vals_cons {R : Ev} {sc : Scope} {e : Expr} {r : List Expr} {loc : Loc} : vals R sc (e :: r) loc = (val R sc e loc).bind fun p => (vals R sc r p.2).bind fun q => some (p.1 :: q.1, q.2) := rfl
theorem pks_nil {R : Ev} {sc : Scope} {loc : Loc} : pks R sc [] loc = some ([], loc) := rfl
theorem pks_cons {R : Ev} {sc : Scope} {e : Expr} {r : List Expr} {loc : Loc} : pks R sc (e :: r) loc = (pk R sc e loc).bind fun p => (pks R sc r p.2).bind fun q => some (p.1 :: q.1, q.2) := rfl
theorem pairs_nil {R : Ev} {sc : Scope} {loc : Loc} : pairs R sc [] [] loc = some ([], loc) := rfl
theorem pairs_cons {R : Ev} {sc : Scope} {k e : Expr} {kr : List (Option Expr)} {r : List Expr} {loc : Loc} : pairs R sc (some k :: kr) (e :: r) loc = (val R sc k loc).bind fun p => (val R sc e p.2).bind fun q => (pairs R sc kr r q.2).bind fun t => match p.1 with | .int i => some ((i, q.1) :: t.1, t.2) | _ => Option.none := rfl
theorem putNs_nil {sc : Scope} {loc : Loc} : putNs sc [] [] loc = some loc := rfl
theorem putNs_put {sc : Scope} {x : Str} {p : Pos} {r : List Expr} {v : V} {b : Bool} {vs : List (V × Bool)} {loc : Loc} : putNs sc (.Name x p :: r) ((v, b) :: vs) loc = (putN sc x v b loc).bind (putNs sc r vs) := rfl
theorem evos_nil {R : Ev} {sc : Scope} {loc : Loc} : evos R sc [] loc = some ([], loc) := rfl
theorem evos_cons {R : Ev} {sc : Scope} {e : Expr} {r : List Expr} {loc : Loc} : evos R sc (e :: r) loc = (R.ev sc e loc).bind fun p => (evos R sc r p.2.2).bind fun q => some ((p.1, p.2.1) :: q.1, q.2) := rfl
theorem val_view (R : Ev) (sc : Scope) (e : Expr) (loc : Loc) : (∃ x p, e = .Name x p) ∨ (val R sc e loc = (R.ev sc e loc).map (fun x => (x.1, x.2.2)) ∧ pk R sc e loc = (R.ev sc e loc).map (fun x => (x.1, x.2.2))) := by
  cases e with
  | Name x p => exact .inl ⟨x, p, rfl⟩
  | _ => exact .inr ⟨rfl, rfl⟩
theorem forL_c {f : V → Loc → Option (Fl × Loc)} {v : V} {r : List V} {loc : Loc} : forL f (v :: r) loc = (match f v loc with | some (.next, loc') => forL f r loc' | x => x) := rfl
theorem compL_n {f : V → Loc → Option (List V × Loc)} {loc : Loc} : compL f [] loc = some ([], loc) := rfl
theorem compL_c {f : V → Loc → Option (List V × Loc)} {v : V} {r : List V} {loc : Loc} : compL f (v :: r) loc = (f v loc).bind fun p => (compL f r p.2).bind fun q => some (p.1 ++ q.1, q.2) := rfl
theorem allT_n {R : Ev} {sc : Scope} {loc : Loc} : allT R sc [] loc = some (true, loc) := rfl
theorem allT_c {R : Ev} {sc : Scope} {e : Expr} {r : List Expr} {loc : Loc} : allT R sc (e :: r) loc = (R.tst sc e loc).bind fun p => if p.1 then allT R sc r p.2 else some (false, p.2) := rfl
/-! inversions, used often: they keep the proofs small -/
theorem no {α : Type} {r : α} {P : Prop} (h : (Option.none : Option α) = some r) : P := nomatch h
inductive B1 {α β : Type} (x : Option α) (f : α → Option β) (r : β) : Prop
  | mk (a : α) : x = some a → f a = some r → B1 x f r
inductive B2 {α γ β : Type} (x : Option (α × γ)) (f : α × γ → Option β) (r : β) : Prop
  | mk (a : α) (l : γ) : x = some (a, l) → f (a, l) = some r → B2 x f r
inductive B3 {α δ γ β : Type} (x : Option (α × δ × γ)) (f : α × δ × γ → Option β) (r : β) : Prop
  | mk (a : α) (b : δ) (l : γ) : x = some (a, b, l) → f (a, b, l) = some r → B3 x f r
inductive IV {ι α : Type} (k : ι → V) (f : ι → Option α) (x : V) (r : α) : Prop
  | mk (i : ι) : x = k i → f i = some r → IV k f x r
inductive IW {ι κ α : Type} (k : ι → V) (m : κ → V) (f : ι → κ → Option α) (x y : V) (r : α) : Prop
  | mk (i : ι) (j : κ) : x = k i → y = m j → f i j = some r → IW k m f x y r
theorem bs1 {α β : Type} {x : Option α} {f : α → Option β} {r : β} (h : (x >>= f) = some r) : B1 x f r := by
  cases x with
  | none => exact no h
  | some a => exact ⟨a, rfl, h⟩
theorem bs2 {α γ β : Type} {x : Option (α × γ)} {f : α × γ → Option β} {r : β} (h : (x >>= f) = some r) : B2 x f r := by
  cases x with
  | none => exact no h
  | some a => exact ⟨a.1, a.2, rfl, h⟩
theorem bs3 {α δ γ β : Type} {x : Option (α × δ × γ)} {f : α × δ × γ → Option β} {r : β} (h : (x >>= f) = some r) : B3 x f r := by
  cases x with
  | none => exact no h
  | some a => exact ⟨a.1, a.2.1, a.2.2, rfl, h⟩
theorem if1 {α : Type} {c : Prop} [Decidable c] {x : Option α} {r : α} (h : (if c then x else Option.none) = some r) : c ∧ x = some r := by
  by_cases q : c
  · exact ⟨q, by rwa [if_pos q] at h⟩
  · rw [if_neg q] at h; cases h
theorem if2 {α : Type} {c : Prop} [Decidable c] {x y : α} {r : α} (h : (if c then x else y) = r) : c ∧ x = r ∨ ¬ c ∧ y = r := by
  by_cases q : c
  · exact .inl ⟨q, by rwa [if_pos q] at h⟩
  · exact .inr ⟨q, by rwa [if_neg q] at h⟩
theorem ifn {α : Type} {c : Prop} [Decidable c] {x : Option α} {r : α} (h : (if c then Option.none else x) = some r) : ¬ c ∧ x = some r := by
  by_cases q : c
  · rw [if_pos q] at h; cases h
  · exact ⟨q, by rwa [if_neg q] at h⟩
theorem inv_int {α : Type} {f : Int → Option α} {x : V} {r : α} (h : (match x with | .int i => f i | _ => Option.none) = some r) : IV .int f x r := by
  cases x with
  | int i => exact ⟨i, rfl, h⟩
  | _ => exact no h
theorem inv_bool {α : Type} {f : Bool → Option α} {x : V} {r : α} (h : (match x with | .bool i => f i | _ => Option.none) = some r) : IV .bool f x r := by
  cases x with
  | bool i => exact ⟨i, rfl, h⟩
  | _ => exact no h
theorem inv_list {α : Type} {f : List V → Option α} {x : V} {r : α} (h : (match x with | .list i => f i | _ => Option.none) = some r) : IV .list f x r := by
  cases x with
  | list i => exact ⟨i, rfl, h⟩
  | _ => exact no h
theorem inv_dict {α : Type} {f : List (Int × V) → Option α} {x : V} {r : α} (h : (match x with | .dict i => f i | _ => Option.none) = some r) : IV .dict f x r := by
  cases x with
  | dict i => exact ⟨i, rfl, h⟩
  | _ => exact no h
theorem inv_inst {α : Type} {f : V → Option α} {x : V} {r : α} (h : (match x with | .inst i => f i | _ => Option.none) = some r) : IV .inst f x r := by
  cases x with
  | inst i => exact ⟨i, rfl, h⟩
  | _ => exact no h
theorem inv_dictint {α : Type} {f : List (Int × V) → Int → Option α} {x y : V} {r : α} (h : (match x, y with | .dict es, .int i => f es i | _, _ => Option.none) = some r) : IW .dict .int f x y r := by
  cases x with
  | dict es => cases y with
    | int i => exact ⟨es, i, rfl, rfl, h⟩
    | _ => exact no h
  | _ => exact no h
theorem inv_intint {α : Type} {f : Int → Int → Option α} {x y : V} {r : α} (h : (match x, y with | .int es, .int i => f es i | _, _ => Option.none) = some r) : IW .int .int f x y r := by
  cases x with
  | int es => cases y with
    | int i => exact ⟨es, i, rfl, rfl, h⟩
    | _ => exact no h
  | _ => exact no h
theorem some2 {α β : Type} {a a' : α} {b b' : β} (h : some (a, b) = some (a', b')) : a = a' ∧ b = b' := by cases h; exact ⟨rfl, rfl⟩
theorem some1 {α : Type} {a a' : α} (h : some a = some a') : a = a' := by cases h; rfl
theorem names_cons {t : Expr} {ts : List Expr} (h : ((t :: ts).map nameOf).all Option.isSome = true) : ∃ x p, t = .Name x p ∧ (ts.map nameOf).all Option.isSome = true := by
  have h := (Bool.and_eq_true_iff.mp (h : ((nameOf t).isSome && (ts.map nameOf).all Option.isSome) = true))
  cases t with
  | Name x p => exact ⟨x, p, rfl, h.2⟩
  | _ => exact absurd h.1 Bool.false_ne_true
inductive PutC (sc : Scope) (t : Expr) (ts : List Expr) (vs : List (V × Bool)) (l r : Loc) : Prop
  | mk (x : Str) (p : Pos) (v : V) (b : Bool) (vs' : List (V × Bool)) (l' : Loc) : t = .Name x p → vs = (v, b) :: vs' → putN sc x v b l = some l' → putNs sc ts vs' l' = some r → PutC sc t ts vs l r
theorem putNs_cons {sc : Scope} {t : Expr} {ts : List Expr} {vs : List (V × Bool)} {l r : Loc} (h : putNs sc (t :: ts) vs l = some r) : PutC sc t ts vs l r := by
  cases t with
  | Name x p =>
    cases vs with
    | nil => exact no h
    | cons w vs =>
      obtain ⟨l', h1, h⟩ := bs1 (show (putN sc x w.1 w.2 l >>= putNs sc ts vs) = some r from h)
      exact ⟨x, p, w.1, w.2, vs, l', rfl, rfl, h1, h⟩
  | _ => exact no h
theorem inv_augn {α : Type} {f : Int → Option α} {k : Option NameKind} {g : Option (V × Bool)} {r : α} (h : (match k, g with | some .local, some (.int a, false) => f a | _, _ => Option.none) = some r) : ∃ a, k = some .local ∧ g = some (.int a, false) ∧ f a = some r := by
  cases k with
  | none => exact no h
  | some k => cases k with
    | «local» => cases g with
      | none => exact no h
      | some p =>
        obtain ⟨v, b⟩ := p
        cases v with
        | int a => cases b with
          | false => exact ⟨a, rfl, rfl, h⟩
          | true => exact no h
        | _ => exact no h
    | _ => exact no h
theorem inv_augs {α : Type} {f : V → Option α} {k : Option NameKind} {g : Option (V × Bool)} {r : α} (h : (match k, g with | some .local, some (ov, true) => f ov | _, _ => Option.none) = some r) : ∃ a, k = some .local ∧ g = some (a, true) ∧ f a = some r := by
  cases k with
  | none => exact no h
  | some k => cases k with
    | «local» => cases g with
      | none => exact no h
      | some p =>
        obtain ⟨v, b⟩ := p
        cases b with
        | true => exact ⟨v, rfl, rfl, h⟩
        | false => exact no h
    | _ => exact no h
theorem inv_b1 {f : V → Option V} {vs : List V} {r : V} (h : b1 f vs = some r) : ∃ v, vs = [v] ∧ f v = some r := by
  cases vs with
  | nil => exact no h
  | cons v r => cases r with
    | nil => exact ⟨v, rfl, h⟩
    | cons _ _ => exact no h
theorem inv_listdict {α : Type} {f : List V → Option α} {g : List (Int × V) → Option α} {x : V} {r : α} (h : (match x with | .list i => f i | .dict i => g i | _ => Option.none) = some r) : IV .list f x r ∨ IV .dict g x r := by
  cases x with
  | list i => exact .inl ⟨i, rfl, h⟩
  | dict i => exact .inr ⟨i, rfl, h⟩
  | _ => exact no h
theorem inv_isi {vs : List V} {r : V} (h : bIsi vs = some r) : ∃ v t, vs = [v, .ty t] ∧ (typeIs v t).map .bool = some r := by
  cases vs with
  | nil => exact no h
  | cons v r => cases r with
    | nil => exact no h
    | cons w r => cases w with
      | ty t => cases r with
        | nil => exact ⟨v, t, rfl, h⟩
        | cons _ _ => exact no h
      | _ => cases r <;> exact no h
theorem inv_item {α : Type} {f g : List V → Int → Option α} {k : List (Int × V) → Int → Option α} {l : Str → Int → Option α} {x y : V} {r : α}
    (h : (match x, y with | .list vs, .int i => f vs i | .tup vs, .int i => g vs i | .dict es, .int i => k es i | .str s, .int i => l s i | _, _ => Option.none) = some r) :
    ∃ i, y = .int i ∧ (IV .list (f · i) x r ∨ IV .tup (g · i) x r ∨ IV .dict (k · i) x r ∨ IV .str (l · i) x r) := by
  cases x with
  | list vs => cases y with
    | int i => exact ⟨i, rfl, .inl ⟨vs, rfl, h⟩⟩
    | _ => exact no h
  | tup vs => cases y with
    | int i => exact ⟨i, rfl, .inr (.inl ⟨vs, rfl, h⟩)⟩
    | _ => exact no h
  | dict vs => cases y with
    | int i => exact ⟨i, rfl, .inr (.inr (.inl ⟨vs, rfl, h⟩))⟩
    | _ => exact no h
  | str vs => cases y with
    | int i => exact ⟨i, rfl, .inr (.inr (.inr ⟨vs, rfl, h⟩))⟩
    | _ => exact no h
  | _ => exact no h
theorem inv_intsV {v : V} {vs : List V} {ns : List Int} (h : intsV (v :: vs) = some ns) : ∃ i ms, v = .int i ∧ intsV vs = some ms ∧ ns = i :: ms := by
  cases v with
  | int i =>
    obtain ⟨ms, h1, h2⟩ := Option.map_eq_some_iff.mp (h : (intsV vs).map (i :: ·) = some ns)
    exact ⟨i, ms, rfl, h1, h2.symm⟩
  | _ => exact no h
theorem inv_intE {k : Int} {v : V} {r : List (Int × V)} (h : intE ((k, v) :: r) = true) : ∃ i, v = .int i ∧ intE r = true := by
  cases v with
  | int i => exact ⟨i, rfl, h⟩
  | _ => exact absurd h Bool.false_ne_true
theorem inv_eq1 {a b : V} {r : Bool} (h : eq1 a b = some r) : IW .int .int (fun i j => some (i == j)) a b r ∨ IW .dict .dict (fun x y => if (intE x && intE y) = true then some (eqD x y) else Option.none) a b r := by
  cases a with
  | int i => cases b with
    | int j => exact .inl ⟨i, j, rfl, rfl, h⟩
    | _ => exact no h
  | dict i => cases b with
    | dict j => exact .inr ⟨i, j, rfl, rfl, h⟩
    | _ => exact no h
  | _ => exact no h
theorem inv_both {f : List Int → List Int → Bool} {a b : Option (List Int)} {r : Bool} (h : bothI f a b = some r) : ∃ p q, a = some p ∧ b = some q ∧ some (f p q) = some r := by
  cases a with
  | none => exact no h
  | some p => cases b with
    | none => exact no h
    | some q => exact ⟨p, q, rfl, rfl, h⟩
theorem inv_eq {α : Type} {f : Int → Int → Option α} {g : List (Int × V) → List (Int × V) → Option α} {k l : List V → List V → Option α} {a b : V} {r : α}
    (h : (match a, b with | .int i, .int j => f i j | .dict i, .dict j => g i j | .list i, .list j => k i j | .tup i, .tup j => l i j | _, _ => Option.none) = some r) :
    IW .int .int f a b r ∨ IW .dict .dict g a b r ∨ IW .list .list k a b r ∨ IW .tup .tup l a b r := by
  cases a with
  | int i => cases b with
    | int j => exact .inl ⟨i, j, rfl, rfl, h⟩
    | _ => exact no h
  | dict i => cases b with
    | dict j => exact .inr (.inl ⟨i, j, rfl, rfl, h⟩)
    | _ => exact no h
  | list i => cases b with
    | list j => exact .inr (.inr (.inl ⟨i, j, rfl, rfl, h⟩))
    | _ => exact no h
  | tup i => cases b with
    | tup j => exact .inr (.inr (.inr ⟨i, j, rfl, rfl, h⟩))
    | _ => exact no h
  | _ => exact no h
theorem inv_ne {α : Type} {f : Int → Int → Option α} {g : List (Int × V) → List (Int × V) → Option α} {l : List V → List V → Option α} {a b : V} {r : α}
    (h : (match a, b with | .int i, .int j => f i j | .dict i, .dict j => g i j | .tup i, .tup j => l i j | _, _ => Option.none) = some r) :
    IW .int .int f a b r ∨ IW .dict .dict g a b r ∨ IW .tup .tup l a b r := by
  cases a with
  | int i => cases b with
    | int j => exact .inl ⟨i, j, rfl, rfl, h⟩
    | _ => exact no h
  | dict i => cases b with
    | dict j => exact .inr (.inl ⟨i, j, rfl, rfl, h⟩)
    | _ => exact no h
  | tup i => cases b with
    | tup j => exact .inr (.inr ⟨i, j, rfl, rfl, h⟩)
    | _ => exact no h
  | _ => exact no h
theorem inv_is {α : Type} {f g h' : Option α} {a b : V} {r : α} (h : (match a, b with | .none, .none => f | .dict _, .none => g | .tup _, .none => h' | _, _ => Option.none) = some r) : b = .none ∧ ((a = .none ∧ f = some r) ∨ (∃ x, a = .dict x ∧ g = some r) ∨ ∃ x, a = .tup x ∧ h' = some r) := by
  cases a with
  | none => cases b with
    | none => exact ⟨rfl, .inl ⟨rfl, h⟩⟩
    | _ => exact no h
  | dict x => cases b with
    | none => exact ⟨rfl, .inr (.inl ⟨x, rfl, h⟩)⟩
    | _ => exact no h
  | tup x => cases b with
    | none => exact ⟨rfl, .inr (.inr ⟨x, rfl, h⟩)⟩
    | _ => exact no h
  | _ => exact no h
theorem inv_intstr {α : Type} {f : Int → Int → Option α} {g : Str → Str → Option α} {a b : V} {r : α} (h : (match a, b with | .int i, .int j => f i j | .str i, .str j => g i j | _, _ => Option.none) = some r) : IW .int .int f a b r ∨ IW .str .str g a b r := by
  cases a with
  | int i => cases b with
    | int j => exact .inl ⟨i, j, rfl, rfl, h⟩
    | _ => exact no h
  | str i => cases b with
    | str j => exact .inr ⟨i, j, rfl, rfl, h⟩
    | _ => exact no h
  | _ => exact no h
theorem inv_intdict {α : Type} {f : Int → List (Int × V) → Option α} {a b : V} {r : α} (h : (match a, b with | .int i, .dict j => f i j | _, _ => Option.none) = some r) : IW .int .dict f a b r := by
  cases a with
  | int i => cases b with
    | dict j => exact ⟨i, j, rfl, rfl, h⟩
    | _ => exact no h
  | _ => exact no h
theorem inv_intlist {α : Type} {f : Int → Int → Option α} {g : List V → List V → Option α} {a b : V} {r : α} (h : (match a, b with | .int i, .int j => f i j | .list i, .list j => g i j | _, _ => Option.none) = some r) : IW .int .int f a b r ∨ IW .list .list g a b r := by
  cases a with
  | int i => cases b with
    | int j => exact .inl ⟨i, j, rfl, rfl, h⟩
    | _ => exact no h
  | list i => cases b with
    | list j => exact .inr ⟨i, j, rfl, rfl, h⟩
    | _ => exact no h
  | _ => exact no h
theorem inv_mult {α : Type} {f : Int → Int → Option α} {g : List V → Int → Option α} {a b : V} {r : α} (h : (match a, b with | .int i, .int j => f i j | .list i, .int j => g i j | _, _ => Option.none) = some r) : ∃ j, b = .int j ∧ (IV .int (f · j) a r ∨ IV .list (g · j) a r) := by
  cases a with
  | int i => cases b with
    | int j => exact ⟨j, rfl, .inl ⟨i, rfl, h⟩⟩
    | _ => exact no h
  | list i => cases b with
    | int j => exact ⟨j, rfl, .inr ⟨i, rfl, h⟩⟩
    | _ => exact no h
  | _ => exact no h
/-- what an iterable is, by its kind -/
noncomputable def ItShape (sc : Scope) (e : Expr) : ItKind → Prop
  | .plain => True
  | .range => ∃ g gp a p, e = .Call (.Name g gp) [a] [] p ∧ globN sc g = true ∧ g = Str.ofString "range"
  | .enum => ∃ g gp a p, e = .Call (.Name g gp) [a] [] p ∧ globN sc g = true ∧ g = Str.ofString "enumerate"
  | .items => ∃ x xp m ap p, e = .Call (.Attribute (.Name x xp) m ap) [] [] p ∧ (ap.endLine == p.line) = true ∧ m = Str.ofString "items"
  | .values => ∃ x xp m ap p, e = .Call (.Attribute (.Name x xp) m ap) [] [] p ∧ (ap.endLine == p.line) = true ∧ m = Str.ofString "values"
theorem ItShape.of_name {sc : Scope} {g : Str} {gp p : Pos} {a : Expr} : ItShape sc (.Call (.Name g gp) [a] [] p) (itKind sc (.Call (.Name g gp) [a] [] p)) := by
  show ItShape sc _ (if (globN sc g && g == Str.ofString "range") = true then .range else if (globN sc g && g == Str.ofString "enumerate") = true then .enum else .plain)
  split
  · rename_i q
    rw [Bool.and_eq_true] at q
    exact ⟨g, gp, a, p, rfl, q.1, eq_of_beq q.2⟩
  · split
    · rename_i q
      rw [Bool.and_eq_true] at q
      exact ⟨g, gp, a, p, rfl, q.1, eq_of_beq q.2⟩
    · trivial
theorem ItShape.of_meth {sc : Scope} {x m : Str} {xp ap p : Pos} : ItShape sc (.Call (.Attribute (.Name x xp) m ap) [] [] p) (itKind sc (.Call (.Attribute (.Name x xp) m ap) [] [] p)) := by
  show ItShape sc _ (if ((ap.endLine == p.line) == false) = true then .plain else if (m == Str.ofString "items") = true then .items else if (m == Str.ofString "values") = true then .values else .plain)
  split
  · trivial
  · rename_i q
    have ln : (ap.endLine == p.line) = true := by
      cases h : (ap.endLine == p.line) with
      | true => rfl
      | false => rw [h] at q; exact absurd rfl q
    split
    · rename_i q; exact ⟨x, xp, m, ap, p, rfl, ln, eq_of_beq q⟩
    · split
      · rename_i q; exact ⟨x, xp, m, ap, p, rfl, ln, eq_of_beq q⟩
      · trivial
theorem itShape (sc : Scope) (e : Expr) : ItShape sc e (itKind sc e) := by
  cases e with
  | Call fn args kws p =>
    cases fn with
    | Name g gp =>
      cases args with
      | nil => exact trivial
      | cons a r => cases r with
        | nil => cases kws with
          | nil => exact .of_name
          | cons _ _ => exact trivial
        | cons _ _ => exact trivial
    | Attribute o m ap =>
      cases o with
      | Name x xp =>
        cases args with
        | nil => cases kws with
          | nil => exact .of_meth
          | cons _ _ => exact trivial
        | cons _ _ => exact trivial
      | _ => exact trivial
    | _ => exact trivial
  | _ => exact trivial
theorem inv_lo {α : Type} {f : Int → Option α} {lo hi : Option V} {r : α} (h : (match lo, hi with | some (.int i), Option.none => f i | _, _ => Option.none) = some r) : ∃ i, lo = some (.int i) ∧ hi = Option.none ∧ f i = some r := by
  cases lo with
  | none => exact no h
  | some w => cases w with
    | int i => cases hi with
      | none => exact ⟨i, rfl, rfl, h⟩
      | some _ => exact no h
    | _ => exact no h
theorem inv_hi {α : Type} {f : Int → Option α} {lo hi : Option V} {r : α} (h : (match lo, hi with | Option.none, some (.int i) => f i | _, _ => Option.none) = some r) : ∃ i, lo = Option.none ∧ hi = some (.int i) ∧ f i = some r := by
  cases lo with
  | some _ => exact no h
  | none => cases hi with
    | none => exact no h
    | some w => cases w with
      | int i => exact ⟨i, rfl, rfl, h⟩
      | _ => exact no h
inductive PairC (R : Ev) (sc : Scope) (k : Option Expr) (kr : List (Option Expr)) (vs : List Expr) (loc : Loc) (r : List (Int × V) × Loc) : Prop
  | mk (k' e : Expr) (vr : List Expr) (i : Int) (l1 : Loc) (v : V) (l2 : Loc) (us : List (Int × V)) (l3 : Loc) : k = some k' → vs = e :: vr → val R sc k' loc = some (.int i, l1) → val R sc e l1 = some (v, l2) → pairs R sc kr vr l2 = some (us, l3) → ((i, v) :: us, l3) = r → PairC R sc k kr vs loc r
theorem inv_pairs {R : Ev} {sc : Scope} {k : Option Expr} {kr : List (Option Expr)} {vs : List Expr} {loc : Loc} {r : List (Int × V) × Loc} (h : pairs R sc (k :: kr) vs loc = some r) :
    PairC R sc k kr vs loc r := by
  cases k with
  | none => exact no h
  | some k' => cases vs with
    | nil => exact no h
    | cons e vr =>
      obtain ⟨kv, l1, h1, h⟩ := bs2 (show (val R sc k' loc >>= fun p => val R sc e p.2 >>= fun q => pairs R sc kr vr q.2 >>= fun t => match p.1 with | .int i => some ((i, q.1) :: t.1, t.2) | _ => Option.none) = some r from h)
      obtain ⟨v, l2, h2, h⟩ := bs2 h
      obtain ⟨us, l3, h3, h⟩ := bs2 h
      obtain ⟨i, rfl, h⟩ := inv_int h
      exact ⟨k', e, vr, i, l1, v, l2, us, l3, rfl, rfl, h1, h2, h3, some1 h⟩
end Mine
end
/-! Rep -/
section
set_option maxRecDepth 100000
namespace Mine
open PySem PySem.W PyProof.Rows

/-- what does not change while the law runs -/
structure Cx where
  prog : Program
  w : World
  base : Heap
  C : Addr

noncomputable def cslName : Str := Str.ofString "comp_select_list"

mutual
/-- a value tree, as the heap bears it, away from the addresses M -/
inductive Rep (c : Cx) (h : Heap) (M : Addr → Prop) : V → Value → Prop
  | none : Rep c h M .none .none
  | bool (b) : Rep c h M (.bool b) (.bool b)
  | int (i t) : Rep c h M (.int i) (.int i t)
  | str (x t) : Rep c h M (.str x) (.str x t)
  | ty (n) : Rep c h M (.ty n) (.type n)
  | tup {a vs xs n} : ¬ M a → h.get? a = some { cls := .type "tuple", data := .seq (List.toArray xs) n } → Reps c h M vs xs → Rep c h M (.tup vs) (.ref a)
  | list {a vs xs n} : ¬ M a → h.get? a = some { cls := .type "list", data := .seq (List.toArray xs) n } → Reps c h M vs xs → Rep c h M (.list vs) (.ref a)
  | dict {a es kvs} : ¬ M a → (a == sysModules) = false → h.DictOf (intKind c.prog c.w) a kvs → RepE c h M es kvs → Rep c h M (.dict es) (.ref a)
  | inst {a dx hs t n v x} : ¬ M a → ¬ M dx → h.get? a = some (instObj c.C dx) → h.get? dx = some (dictOf [⟨hs, .str cslName t, x⟩] n) → Rep c h M v x → Rep c h M (.inst v) (.ref a)
  | src {a vs xs} : ¬ M a → h.IsList a (List.toArray xs) → Reps c h M vs xs → Rep c h M (.src vs) (.ref a)
inductive Reps (c : Cx) (h : Heap) (M : Addr → Prop) : List V → List Value → Prop
  | nil : Reps c h M [] []
  | cons {v x vs xs} : Rep c h M v x → Reps c h M vs xs → Reps c h M (v :: vs) (x :: xs)
inductive RepE (c : Cx) (h : Heap) (M : Addr → Prop) : List (Int × V) → List (Int × Value) → Prop
  | nil : RepE c h M [] []
  | cons {k v x es kvs} : Rep c h M v x → RepE c h M es kvs → RepE c h M ((k, v) :: es) ((k, x) :: kvs)
end

/-- the objects off M stay, and stay off M' -/
noncomputable def Later (h : Heap) (M : Addr → Prop) (h' : Heap) (M' : Addr → Prop) : Prop := ∀ a o, ¬ M a → h.get? a = some o → h'.get? a = some o ∧ ¬ M' a

theorem Later.trans {h h' h'' : Heap} {M M' M'' : Addr → Prop} (x : Later h M h' M') (y : Later h' M' h'' M'') : Later h M h'' M'' := fun a o hm e =>
  let ⟨e', hm'⟩ := x a o hm e
  y a o hm' e'

theorem Rep.later {c : Cx} {h h' : Heap} {M M' : Addr → Prop} (l : Later h M h' M') {v : V} {x : Value} (r : Rep c h M v x) : Rep c h' M' v x :=
  Rep.rec (motive_1 := fun v x _ => Rep c h' M' v x) (motive_2 := fun vs xs _ => Reps c h' M' vs xs) (motive_3 := fun es kvs _ => RepE c h' M' es kvs)
    .none .bool .int .str .ty
    (fun hm e _ ih => .tup (l _ _ hm e).2 (l _ _ hm e).1 ih)
    (fun hm e _ ih => .list (l _ _ hm e).2 (l _ _ hm e).1 ih)
    (fun hm hs d _ ih => .dict (let ⟨_, _, _, e, _⟩ := d; (l _ _ hm e).2) hs (let ⟨o, es, ep, e, q⟩ := d; ⟨o, es, ep, (l _ _ hm e).1, q⟩) ih)
    (fun hm hd e e' _ ih => .inst (l _ _ hm e).2 (l _ _ hd e').2 (l _ _ hm e).1 (l _ _ hd e').1 ih)
    (fun hm e _ ih => .src (let ⟨_, e, _⟩ := e; (l _ _ hm e).2) (let ⟨o, e, q⟩ := e; ⟨o, (l _ _ hm e).1, q⟩) ih)
    .nil (fun _ _ a r => .cons a r) .nil (fun _ _ a r => .cons a r) r

theorem Reps.inv0 {c : Cx} {h : Heap} {M : Addr → Prop} {xs : List Value} (r : Reps c h M [] xs) : xs = [] := by cases r; rfl
theorem Reps.inv1 {c : Cx} {h : Heap} {M : Addr → Prop} {v : V} {vs : List V} {xs : List Value} (r : Reps c h M (v :: vs) xs) : ∃ x ys, xs = x :: ys ∧ Rep c h M v x ∧ Reps c h M vs ys := by
  cases r with | cons a r => exact ⟨_, _, rfl, a, r⟩
theorem RepE.inv0 {c : Cx} {h : Heap} {M : Addr → Prop} {xs : List (Int × Value)} (r : RepE c h M [] xs) : xs = [] := by cases r; rfl
theorem RepE.inv1 {c : Cx} {h : Heap} {M : Addr → Prop} {p : Int × V} {vs : List (Int × V)} {xs : List (Int × Value)} (r : RepE c h M (p :: vs) xs) : ∃ x ys, xs = (p.1, x) :: ys ∧ Rep c h M p.2 x ∧ RepE c h M vs ys := by
  cases r with | cons a r => exact ⟨_, _, rfl, a, r⟩
theorem Reps.later {c : Cx} {h h' : Heap} {M M' : Addr → Prop} (l : Later h M h' M') {vs : List V} : ∀ {xs : List Value}, Reps c h M vs xs → Reps c h' M' vs xs := by
  induction vs with
  | nil => intro xs r; rw [r.inv0]; exact .nil
  | cons v vs ih => intro xs r; obtain ⟨x, ys, rfl, a, r⟩ := r.inv1; exact .cons (a.later l) (ih r)
theorem RepE.later {c : Cx} {h h' : Heap} {M M' : Addr → Prop} (l : Later h M h' M') {vs : List (Int × V)} : ∀ {xs : List (Int × Value)}, RepE c h M vs xs → RepE c h' M' vs xs := by
  induction vs with
  | nil => intro xs r; rw [r.inv0]; exact .nil
  | cons v vs ih => intro xs r; obtain ⟨x, ys, rfl, a, r⟩ := r.inv1; exact .cons (a.later l) (ih r)
theorem Reps.length {c : Cx} {h : Heap} {M : Addr → Prop} {vs : List V} : ∀ {xs : List Value}, Reps c h M vs xs → xs.length = vs.length := by
  induction vs with
  | nil => intro xs r; rw [r.inv0]; rfl
  | cons v vs ih => intro xs r; obtain ⟨x, ys, rfl, a, r⟩ := r.inv1; exact congrArg (· + 1) (ih r)
theorem RepE.length {c : Cx} {h : Heap} {M : Addr → Prop} {vs : List (Int × V)} : ∀ {xs : List (Int × Value)}, RepE c h M vs xs → xs.length = vs.length := by
  induction vs with
  | nil => intro xs r; rw [r.inv0]; rfl
  | cons v vs ih => intro xs r; obtain ⟨x, ys, rfl, a, r⟩ := r.inv1; exact congrArg (· + 1) (ih r)
theorem Reps.get {c : Cx} {h : Heap} {M : Addr → Prop} {vs : List V} : ∀ {xs : List Value}, Reps c h M vs xs → ∀ {i : Nat} {v : V}, vs[i]? = some v → ∃ x, xs[i]? = some x ∧ Rep c h M v x := by
  induction vs with
  | nil => intro xs r i v e; exact no e
  | cons w vs ih =>
    intro xs r i v e
    obtain ⟨x, ys, rfl, a, r⟩ := r.inv1
    cases i with
    | zero => rw [← some1 e]; exact ⟨x, rfl, a⟩
    | succ i => exact ih r e
theorem Reps.append {c : Cx} {h : Heap} {M : Addr → Prop} {vs us : List V} {xs ys : List Value} (r : Reps c h M vs xs) (q : Reps c h M us ys) : Reps c h M (vs ++ us) (xs ++ ys) := by
  induction vs generalizing xs with
  | nil => rw [r.inv0]; exact q
  | cons v vs ih => obtain ⟨x, ys, rfl, a, r'⟩ := r.inv1; exact .cons a (ih r')
theorem Reps.take {c : Cx} {h : Heap} {M : Addr → Prop} {vs : List V} : ∀ {xs : List Value}, Reps c h M vs xs → ∀ k : Nat, Reps c h M (vs.take k) (xs.take k) := by
  induction vs with
  | nil => intro xs r k; rw [r.inv0, List.take_nil, List.take_nil]; exact .nil
  | cons v vs ih =>
    intro xs r k
    obtain ⟨x, ys, rfl, a, r⟩ := r.inv1
    cases k with
    | zero => exact .nil
    | succ k => exact .cons a (ih r k)
theorem Reps.set {c : Cx} {h : Heap} {M : Addr → Prop} {vs : List V} : ∀ {xs : List Value}, Reps c h M vs xs → ∀ (k : Nat) {v : V} {x : Value}, Rep c h M v x → Reps c h M (vs.set k v) (xs.set k x) := by
  induction vs with
  | nil => intro xs r k v x b; rw [r.inv0]; exact .nil
  | cons v vs ih =>
    intro xs r k v x b
    obtain ⟨y, ys, rfl, a, r⟩ := r.inv1
    cases k with
    | zero => exact .cons b r
    | succ k => exact .cons a (ih r k b)

theorem RepE.look {c : Cx} {h : Heap} {M : Addr → Prop} {es : List (Int × V)} : ∀ {kvs : List (Int × Value)}, RepE c h M es kvs → ∀ (k : Int),
    (lookE es k = Option.none ∧ valueAt kvs k = Option.none) ∨ ∃ v x, lookE es k = some v ∧ valueAt kvs k = some x ∧ Rep c h M v x := by
  induction es with
  | nil => intro kvs r k; rw [r.inv0]; exact .inl ⟨rfl, rfl⟩
  | cons p es ih =>
    intro kvs r k
    obtain ⟨x, ys, rfl, a, r'⟩ := r.inv1
    obtain ⟨k', v⟩ := p
    by_cases e : k' = k
    · exact .inr ⟨v, x, by simp [lookE, e], by simp [valueAt, e], a⟩
    · have := ih r' k
      simpa [lookE, valueAt, List.find?_cons, e] using this
theorem RepE.store {c : Cx} {h : Heap} {M : Addr → Prop} {v : V} {x : Value} {es : List (Int × V)} : ∀ {kvs : List (Int × Value)}, RepE c h M es kvs → Rep c h M v x → (kvs.map (·.1)).Nodup → ∀ (k : Int),
    RepE c h M (storeE es k v) (stored kvs k x) := by
  induction es with
  | nil => intro kvs r b hn k; rw [r.inv0]; simpa [storeE, stored] using RepE.cons b RepE.nil
  | cons p es ih =>
    intro kvs r b hn k
    obtain ⟨y, kvs, rfl, a, r'⟩ := r.inv1
    obtain ⟨k', w⟩ := p
    rw [List.map_cons, List.nodup_cons] at hn
    by_cases e : k' = k
    · subst e
      have e2 : stored ((k', y) :: kvs) k' x = (k', x) :: kvs := by
        simp only [stored, List.any_cons, decide_true, Bool.true_or, if_true, List.map_cons]
        rw [map_store_of_not_mem kvs k' x hn.1]
      rw [e2]
      simpa [storeE] using RepE.cons b r'
    · have e2 : stored ((k', y) :: kvs) k x = (k', y) :: stored kvs k x := by
        simp only [stored, List.any_cons, e, decide_false, Bool.false_or, List.map_cons, if_false]
        split <;> rfl
      rw [e2]
      simpa [storeE, e] using RepE.cons a (ih r' b hn.2 k)
theorem RepE.keys {c : Cx} {h : Heap} {M : Addr → Prop} {vs : List (Int × V)} : ∀ {xs : List (Int × Value)}, RepE c h M vs xs → xs.map (·.1) = vs.map (·.1) := by
  induction vs with
  | nil => intro xs r; rw [r.inv0]; rfl
  | cons v vs ih => intro xs r; obtain ⟨x, ys, rfl, a, r⟩ := r.inv1; exact congrArg (v.1 :: ·) (ih r)

/-- what a value is, by its tree -/
noncomputable def RepInv (c : Cx) (h : Heap) (M : Addr → Prop) (v : V) (x : Value) : Prop := match v with
  | .none => x = .none
  | .bool b => x = .bool b
  | .int i => ∃ t, x = .int i t
  | .str s => ∃ t, x = .str s t
  | .ty n => x = .type n
  | .tup vs => ∃ a xs n, x = .ref a ∧ ¬ M a ∧ h.get? a = some { cls := .type "tuple", data := .seq (List.toArray xs) n } ∧ Reps c h M vs xs
  | .list vs => ∃ a xs n, x = .ref a ∧ ¬ M a ∧ h.get? a = some { cls := .type "list", data := .seq (List.toArray xs) n } ∧ Reps c h M vs xs
  | .dict es => ∃ a kvs, x = .ref a ∧ ¬ M a ∧ (a == sysModules) = false ∧ h.DictOf (intKind c.prog c.w) a kvs ∧ RepE c h M es kvs
  | .inst v => ∃ a dx hs t n y, x = .ref a ∧ h.get? a = some (instObj c.C dx) ∧ h.get? dx = some (dictOf [⟨hs, .str cslName t, y⟩] n) ∧ Rep c h M v y
  | .src vs => ∃ a xs, x = .ref a ∧ h.IsList a (List.toArray xs) ∧ Reps c h M vs xs
theorem Rep.inv {c : Cx} {h : Heap} {M : Addr → Prop} {v : V} {x : Value} (r : Rep c h M v x) : RepInv c h M v x := by
  cases r with
  | none => exact rfl
  | bool _ => exact rfl
  | int _ t => exact ⟨t, rfl⟩
  | str _ t => exact ⟨t, rfl⟩
  | ty _ => exact rfl
  | tup hm e r => exact ⟨_, _, _, rfl, hm, e, r⟩
  | list hm e r => exact ⟨_, _, _, rfl, hm, e, r⟩
  | dict hm hs hd r => exact ⟨_, _, rfl, hm, hs, hd, r⟩
  | inst _ _ e e' r => exact ⟨_, _, _, _, _, _, rfl, e, e', r⟩
  | src _ e r => exact ⟨_, _, rfl, e, r⟩

/-- the object itself at a, what it holds away from M -/
inductive Root (c : Cx) (h : Heap) (M : Addr → Prop) (a : Addr) : V → Prop
  | list {vs xs n} : h.get? a = some { cls := .type "list", data := .seq (List.toArray xs) n } → Reps c h M vs xs → Root c h M a (.list vs)
  | dict {es kvs} : (a == sysModules) = false → h.DictOf (intKind c.prog c.w) a kvs → RepE c h M es kvs → Root c h M a (.dict es)

noncomputable def RootInv (c : Cx) (h : Heap) (M : Addr → Prop) (a : Addr) (v : V) : Prop := match v with
  | .list vs => ∃ xs n, h.get? a = some { cls := .type "list", data := .seq (List.toArray xs) n } ∧ Reps c h M vs xs
  | .dict es => ∃ kvs, (a == sysModules) = false ∧ h.DictOf (intKind c.prog c.w) a kvs ∧ RepE c h M es kvs
  | _ => False
theorem Root.inv {c : Cx} {h : Heap} {M : Addr → Prop} {a : Addr} {v : V} (r : Root c h M a v) : RootInv c h M a v := by
  cases r with
  | list e r => exact ⟨_, _, e, r⟩
  | dict s d r => exact ⟨_, s, d, r⟩
theorem Root.there {c : Cx} {h : Heap} {M : Addr → Prop} {a : Addr} {v : V} (r : Root c h M a v) : ∃ o, h.get? a = some o := by
  cases r with
  | list e _ => exact ⟨_, e⟩
  | dict _ d _ => obtain ⟨o, _, _, e, _⟩ := d; exact ⟨o, e⟩
theorem Root.rep {c : Cx} {h : Heap} {M : Addr → Prop} {a : Addr} {v : V} (r : Root c h M a v) (hm : ¬ M a) : Rep c h M v (.ref a) := by
  cases r with
  | list e r => exact .list hm e r
  | dict s d r => exact .dict hm s d r
theorem Root.later {c : Cx} {h h' : Heap} {M M' : Addr → Prop} {a : Addr} {v : V} (r : Root c h M a v) (l : Later h M h' M') (k : ∀ o, h.get? a = some o → h'.get? a = some o) : Root c h' M' a v := by
  cases r with
  | list e r => exact .list (k _ e) (r.later l)
  | dict s d r => exact .dict s (by obtain ⟨o, es, ep, e, q⟩ := d; exact ⟨o, es, ep, k _ e, q⟩) (r.later l)

/-- a value seen, its own address free -/
noncomputable def Seen (c : Cx) (h : Heap) (M : Addr → Prop) (v : V) (x : Value) : Prop := Rep c h M v x ∨ ∃ a, x = .ref a ∧ Root c h M a v
theorem Rep.seen {c : Cx} {h : Heap} {M : Addr → Prop} {v : V} {x : Value} (r : Rep c h M v x) : Seen c h M v x := .inl r
theorem Seen.later {c : Cx} {h h' : Heap} {M M' : Addr → Prop} {v : V} {x : Value} (r : Seen c h M v x) (l : Later h M h' M') (k : ∀ a o, h.get? a = some o → h'.get? a = some o) : Seen c h' M' v x := by
  rcases r with r | ⟨a, rfl, r⟩
  · exact .inl (r.later l)
  · exact .inr ⟨a, rfl, r.later l (k a)⟩

inductive SeqP (c : Cx) (h : Heap) (M : Addr → Prop) (t : String) (vs : List V) (x : Value) : Prop
  | mk (a : Addr) (xs : List Value) (n : Nat) : x = .ref a → h.get? a = some { cls := .type t, data := .seq (List.toArray xs) n } → Reps c h M vs xs → SeqP c h M t vs x
inductive DictP (c : Cx) (h : Heap) (M : Addr → Prop) (es : List (Int × V)) (x : Value) : Prop
  | mk (a : Addr) (kvs : List (Int × Value)) : x = .ref a → (a == sysModules) = false → h.DictOf (intKind c.prog c.w) a kvs → RepE c h M es kvs → DictP c h M es x
section
variable {c : Cx} {h : Heap} {M : Addr → Prop} {x : Value}
theorem Seen.int {i : Int} (r : Seen c h M (.int i) x) : ∃ t, x = .int i t := by
  rcases r with r | ⟨a, _, r⟩
  · exact r.inv
  · exact (r.inv : False).elim
theorem Seen.str {i : Str} (r : Seen c h M (.str i) x) : ∃ t, x = .str i t := by
  rcases r with r | ⟨a, _, r⟩
  · exact r.inv
  · exact (r.inv : False).elim
theorem Seen.bool {b : Bool} (r : Seen c h M (.bool b) x) : x = .bool b := by
  rcases r with r | ⟨a, _, r⟩
  · exact r.inv
  · exact (r.inv : False).elim
theorem Seen.none (r : Seen c h M .none x) : x = .none := by
  rcases r with r | ⟨a, _, r⟩
  · exact r.inv
  · exact (r.inv : False).elim
theorem Seen.ty {n : String} (r : Seen c h M (.ty n) x) : x = .type n := by
  rcases r with r | ⟨a, _, r⟩
  · exact r.inv
  · exact (r.inv : False).elim
theorem Seen.list {vs : List V} (r : Seen c h M (.list vs) x) : SeqP c h M "list" vs x := by
  rcases r with r | ⟨a, e0, r⟩
  · obtain ⟨a, xs, n, e0, _, e, r⟩ := (r.inv : RepInv c h M (.list vs) x)
    exact ⟨a, xs, n, e0, e, r⟩
  · obtain ⟨xs, n, e, r⟩ := (r.inv : RootInv c h M a (.list vs))
    exact ⟨a, xs, n, e0, e, r⟩
theorem Seen.tup {vs : List V} (r : Seen c h M (.tup vs) x) : SeqP c h M "tuple" vs x := by
  rcases r with r | ⟨a, _, r⟩
  · obtain ⟨a, xs, n, e0, _, e, r⟩ := (r.inv : RepInv c h M (.tup vs) x)
    exact ⟨a, xs, n, e0, e, r⟩
  · exact (r.inv : False).elim
theorem Seen.dict {es : List (Int × V)} (r : Seen c h M (.dict es) x) : DictP c h M es x := by
  rcases r with r | ⟨a, e0, r⟩
  · obtain ⟨a, kvs, e0, _, s, d, r⟩ := (r.inv : RepInv c h M (.dict es) x)
    exact ⟨a, kvs, e0, s, d, r⟩
  · obtain ⟨kvs, s, d, r⟩ := (r.inv : RootInv c h M a (.dict es))
    exact ⟨a, kvs, e0, s, d, r⟩
theorem Seen.src {vs : List V} (r : Seen c h M (.src vs) x) : ∃ a xs, x = .ref a ∧ h.IsList a (List.toArray xs) ∧ Reps c h M vs xs := by
  rcases r with r | ⟨a, _, r⟩
  · exact r.inv
  · exact (r.inv : False).elim
theorem Seen.inst {v : V} (r : Seen c h M (.inst v) x) : Rep c h M (.inst v) x := by
  rcases r with r | ⟨a, _, r⟩
  · exact r
  · exact (r.inv : False).elim
end

/-- the frame at hand -/
structure Fm where
  sc : Scope
  env : Env
  mc : List Addr
  fc : List Addr
  X : Addr → Prop

noncomputable abbrev Own := Str → Option Addr
noncomputable def noOwn (own : Own) (x : Str) : Own := fun y => if y = x then Option.none else own y
noncomputable def addOwn (own : Own) (x : Str) (a : Addr) : Own := fun y => if y = x then some a else own y

/-- what the frame may change -/
noncomputable def Fm.Mu (f : Fm) (T : List Addr) (own : Own) (a : Addr) : Prop := a = f.env.locals ∨ a ∈ f.mc ∨ (∃ x, own x = some a) ∨ a ∈ T
noncomputable def Fm.M (f : Fm) (T : List Addr) (own : Own) (a : Addr) : Prop := f.X a ∨ f.Mu T own a

/-- an own address: no other thing of the frame's lies there -/
structure Free1 (c : Cx) (f : Fm) (h : Heap) (a : Addr) : Prop where
  base : c.base.get? a = Option.none
  live : ∃ o, h.get? a = some o
  loc : a ≠ f.env.locals
  mc : a ∉ f.mc
  X : ¬ f.X a
theorem Free1.keeps {c : Cx} {f : Fm} {h h' : Heap} {a : Addr} (x : Free1 c f h a) (hs : ∀ o, h.get? a = some o → ∃ o', h'.get? a = some o') : Free1 c f h' a := ⟨x.base, let ⟨o, e⟩ := x.live; hs o e, x.loc, x.mc, x.X⟩

/-- how a name's value is borne -/
noncomputable def Bears (c : Cx) (f : Fm) (T : List Addr) (own : Own) (h : Heap) (x : Str) (v : V) (b : Bool) (xv : Value) : Prop :=
  if b then ∃ a, xv = .ref a ∧ own x = some a ∧ Root c h (f.M T own) a v else Rep c h (f.M T own) v xv

/-- what holds of the frame always -/
structure Env1 (c : Cx) (f : Fm) : Prop where
  kind : f.env.scope.kind = .function
  glob : f.env.globals = mainGlobals
  built : f.env.builtins = builtinsNs
  loc : ∀ x, kindAt f.sc x = some .local → f.env.kindOf x = some .local
  cell : ∀ x, kindAt f.sc x = some .cell → f.env.kindOf x = some .cell
  free : ∀ x, kindAt f.sc x = some .free → f.env.kindOf x = some .cell
  gl : ∀ x, kindAt f.sc x = some .globalImplicit → f.env.kindOf x = some .globalImplicit
  apart : ∀ x y k, f.env.cells.lookup x = some k → f.env.cells.lookup y = some k → x = y
  sck : f.sc.kind = .function
  kinds : f.env.scope.kind = f.sc.kind
  fcx : ∀ a ∈ f.fc, f.X a
  dbg : ∀ x, (kindAt f.sc x).isSome = true → (x == Str.ofString "__debug__") = false

inductive BearP (c : Cx) (f : Fm) (T : List Addr) (own : Own) (h : Heap) (m : Str → Option Value) (x : Str) (v : V) (b : Bool) : Prop
  | mk (xv : Value) : m x = some xv → Bears c f T own h x v b xv → BearP c f T own h m x v b
inductive FrP (c : Cx) (f : Fm) (T : List Addr) (own : Own) (loc : Loc) (h : Heap) : Prop
  | mk (m : Str → Option Value) : Fr c.base f.env.locals h m → (∀ x v b, getL loc x = some (v, b) → kindAt f.sc x = some .local → BearP c f T own h m x v b) → FrP c f T own loc h
inductive CellP (c : Cx) (f : Fm) (T : List Addr) (own : Own) (h : Heap) (x : Str) (v : V) (b : Bool) : Prop
  | mk : b = false → ∀ (k : Addr) (xv : Value), f.env.cells.lookup x = some k → (k ∈ f.mc ∨ k ∈ f.fc) → h.IsCell k (some xv) → Rep c h (f.M T own) v xv → CellP c f T own h x v b
inductive CellQ (cells : List (Str × Addr)) (mc : List Addr) (h : Heap) (x : Str) : Prop
  | mk (k : Addr) (v₀ : Option Value) : cells.lookup x = some k → k ∈ mc → h.IsCell k v₀ → CellQ cells mc h x

structure Inv (c : Cx) (f : Fm) (T : List Addr) (own : Own) (loc : Loc) (h : Heap) : Prop where
  fr : FrP c f T own loc h
  cells : ∀ x v b, getL loc x = some (v, b) → (kindAt f.sc x = some .cell ∨ kindAt f.sc x = some .free) → CellP c f T own h x v b
  cellAt : ∀ x, (loc.lookup x).isSome = true → kindAt f.sc x = some .cell → CellQ f.env.cells f.mc h x
  ow : ∀ x a, own x = some a → Free1 c f h a ∧ a ∉ T
  inj : ∀ x y a, own x = some a → own y = some a → x = y
  tmp : ∀ a ∈ T, Free1 c f h a
  tnd : T.Nodup
  xl : ¬ f.X f.env.locals
  ml : f.env.locals ∉ f.mc
  mcs : ∀ a ∈ f.mc, c.base.get? a = Option.none ∧ (∃ o, h.get? a = some o) ∧ ¬ f.X a
  xs : ∀ a, f.X a → ∃ o, h.get? a = some o

theorem Inv.locals_live {c : Cx} {f : Fm} {T : List Addr} {own : Own} {loc : Loc} {h : Heap} (I : Inv c f T own loc h) : ∃ o, h.get? f.env.locals = some o := let ⟨_, F, _⟩ := I.fr; let ⟨o, _, _, e, _⟩ := F.ns; ⟨o, e⟩
theorem Inv.keep {c : Cx} {f : Fm} {T : List Addr} {own : Own} {loc : Loc} {h : Heap} (I : Inv c f T own loc h) : ∀ b o, c.base.get? b = some o → h.get? b = some o := let ⟨_, F, _⟩ := I.fr; F.keep

/-- all of M lies in the heap -/
theorem Inv.m_live {c : Cx} {f : Fm} {T : List Addr} {own : Own} {loc : Loc} {h : Heap} (I : Inv c f T own loc h) {a : Addr} (hm : f.M T own a) : ∃ o, h.get? a = some o := by
  rcases hm with hm | rfl | hm | ⟨x, hm⟩ | hm
  · exact I.xs a hm
  · exact I.locals_live
  · exact (I.mcs a hm).2.1
  · exact (I.ow x a hm).1.live
  · exact (I.tmp a hm).live
theorem Inv.fresh {c : Cx} {f : Fm} {T : List Addr} {own : Own} {loc : Loc} {h : Heap} (I : Inv c f T own loc h) {a : Addr} (ha : h.get? a = Option.none) : ¬ f.M T own a := fun hm => by
  obtain ⟨o, e⟩ := I.m_live hm
  rw [ha] at e; cases e

/-- everything stays -/
noncomputable abbrev KeepAll (h h' : Heap) : Prop := ∀ b o, h.get? b = some o → h'.get? b = some o
theorem KeepAll.rfl' (h : Heap) : KeepAll h h := fun _ _ e => e
theorem KeepAll.trans {h h' h'' : Heap} (x : KeepAll h h') (y : KeepAll h' h'') : KeepAll h h'' := fun b o e => y b o (x b o e)
theorem KeepAll.push (h : Heap) (o : Obj) : KeepAll h (h.push o) := fun _ _ e => Heap.get?_push_of_some o e
theorem KeepAll.later {h h' : Heap} (k : KeepAll h h') (M : Addr → Prop) : Later h M h' M := fun a o hm e => ⟨k a o e, hm⟩

theorem Inv.keeps {c : Cx} {f : Fm} {T : List Addr} {own : Own} {loc : Loc} {h h' : Heap} (I : Inv c f T own loc h) (k : KeepAll h h') : Inv c f T own loc h' := by
  obtain ⟨m, F, hm⟩ := I.fr
  have l := k.later (f.M T own)
  have lv : ∀ {a : Addr}, (∃ o, h.get? a = some o) → ∃ o, h'.get? a = some o := fun ⟨o, e⟩ => ⟨o, k _ o e⟩
  refine ⟨⟨m, ⟨F.ns.keeps k, fun b o e => k b o (F.keep b o e), F.above⟩, fun x v b hg hk => ?_⟩, fun x v b hg hk => ?_, fun x hx hk => ?_, fun x a e => ⟨(I.ow x a e).1.keeps fun o e => ⟨o, k _ o e⟩, (I.ow x a e).2⟩, I.inj, fun a ha => (I.tmp a ha).keeps fun o e => ⟨o, k _ o e⟩, I.tnd, I.xl, I.ml,
    fun a ha => ⟨(I.mcs a ha).1, lv (I.mcs a ha).2.1, (I.mcs a ha).2.2⟩, fun a ha => lv (I.xs a ha)⟩
  · obtain ⟨xv, hx, hb⟩ := hm x v b hg hk
    refine ⟨xv, hx, ?_⟩
    unfold Bears at hb ⊢
    split at hb
    · rename_i hb1
      obtain ⟨a, rfl, ho, hr⟩ := hb
      rw [if_pos hb1]
      exact ⟨a, rfl, ho, hr.later l (k a)⟩
    · rename_i hb1
      rw [if_neg hb1]
      exact hb.later l
  · obtain ⟨hb, kk, xv, h1, hx, h2, h3⟩ := I.cells x v b hg hk
    exact ⟨hb, kk, xv, h1, hx, h2.keeps k, h3.later l⟩
  · obtain ⟨kk, v₀, h1, h2, h3⟩ := I.cellAt x hx hk
    exact ⟨kk, v₀, h1, h2, h3.keeps k⟩

/-- one temporary let go -/
theorem Fm.M_drop {f : Fm} {T : List Addr} {own : Own} {a b : Addr} (h : f.M T own b) : f.M (a :: T) own b := by
  rcases h with h | h | h | h | h
  · exact .inl h
  · exact .inr (.inl h)
  · exact .inr (.inr (.inl h))
  · exact .inr (.inr (.inr (.inl h)))
  · exact .inr (.inr (.inr (.inr (.tail _ h))))
theorem Bears.later {c : Cx} {f f' : Fm} {T T' : List Addr} {own own' : Own} {h h' : Heap} {x : Str} {v : V} {b : Bool} {xv : Value} (hb : Bears c f T own h x v b xv) (l : Later h (f.M T own) h' (f'.M T' own'))
    (ho : b = true → ∀ a, own x = some a → own' x = some a ∧ ∀ o, h.get? a = some o → h'.get? a = some o) : Bears c f' T' own' h' x v b xv := by
  unfold Bears at hb ⊢
  split at hb
  · rename_i hb1
    obtain ⟨a, rfl, hoa, hr⟩ := hb
    rw [if_pos hb1]
    exact ⟨a, rfl, (ho hb1 a hoa).1, hr.later l (ho hb1 a hoa).2⟩
  · rename_i hb1
    rw [if_neg hb1]
    exact hb.later l

theorem Inv.drop {c : Cx} {f : Fm} {T : List Addr} {own : Own} {loc : Loc} {h : Heap} {a : Addr} (I : Inv c f (a :: T) own loc h) : Inv c f T own loc h := by
  obtain ⟨m, F, hm⟩ := I.fr
  have l : Later h (f.M (a :: T) own) h (f.M T own) := fun b o hb e => ⟨e, fun q => hb (Fm.M_drop q)⟩
  refine ⟨⟨m, F, fun x v b hg hk => ?_⟩, fun x v b hg hk => ?_, I.cellAt, fun x b e => ⟨(I.ow x b e).1, fun q => (I.ow x b e).2 (.tail _ q)⟩, I.inj, fun b hb => I.tmp b (.tail _ hb), (List.nodup_cons.mp I.tnd).2, I.xl, I.ml, I.mcs, I.xs⟩
  · obtain ⟨xv, hx, hb⟩ := hm x v b hg hk
    exact ⟨xv, hx, hb.later l fun _ a e => ⟨e, fun _ e' => e'⟩⟩
  · obtain ⟨hb, kk, xv, h1, hx, h2, h3⟩ := I.cells x v b hg hk
    exact ⟨hb, kk, xv, h1, hx, h2, h3.later l⟩

/-- a temporary's address lies apart once it is let go -/
theorem Inv.temp_off {c : Cx} {f : Fm} {T : List Addr} {own : Own} {loc : Loc} {h : Heap} {a : Addr} (I : Inv c f (a :: T) own loc h) : ¬ f.M T own a := by
  have q := I.tmp a (.head _)
  rintro (hm | rfl | hm | ⟨x, hm⟩ | hm)
  · exact q.X hm
  · exact q.loc rfl
  · exact q.mc hm
  · exact (I.ow x a hm).2 (.head _)
  · exact (List.nodup_cons.mp I.tnd).1 hm
theorem Root.drop {c : Cx} {f : Fm} {T : List Addr} {own : Own} {loc : Loc} {h : Heap} {a : Addr} {v : V} (I : Inv c f (a :: T) own loc h) (r : Root c h (f.M (a :: T) own) a v) : Rep c h (f.M T own) v (.ref a) := by
  have l : Later h (f.M (a :: T) own) h (f.M T own) := fun b o hb e => ⟨e, fun q => hb (Fm.M_drop q)⟩
  exact (r.later l fun _ e => e).rep I.temp_off

/-! names -/
theorem lookup_setL : ∀ (loc : Loc) (x y : Str) (p : Option (V × Bool)), (setL loc x p).lookup y = if y = x then (loc.lookup y).map fun _ => p else loc.lookup y
  | [], x, y, p => by simp [setL]
  | (z, q) :: r, x, y, p => by
    unfold setL
    by_cases hz : z = x
    · subst hz
      simp only [beq_self_eq_true, if_true, List.lookup_cons]
      by_cases hy : y = z
      · subst hy; simp
      · have : (y == z) = false := by simpa using hy
        simp [this, hy]
    · have hz' : (z == x) = false := by simpa using hz
      simp only [hz', Bool.false_eq_true, if_false, List.lookup_cons]
      by_cases hy : y = z
      · subst hy; simp [hz]
      · have : (y == z) = false := by simpa using hy
        simp only [this]
        exact lookup_setL r x y p
theorem getL_setL (loc : Loc) (x y : Str) (p : Option (V × Bool)) : getL (setL loc x p) y = if y = x then (if (loc.lookup y).isSome then p else Option.none) else getL loc y := by
  unfold getL
  rw [lookup_setL]
  by_cases hy : y = x
  · subst hy
    simp only [if_true]
    cases hl : loc.lookup y with
    | none => simp
    | some q => cases p <;> simp
  · simp [hy]
theorem lookup_setL_isSome (loc : Loc) (x y : Str) (p : Option (V × Bool)) : ((setL loc x p).lookup y).isSome = (loc.lookup y).isSome := by
  rw [lookup_setL]
  split
  · cases loc.lookup y <;> rfl
  · rfl
theorem getL_lookup {loc : Loc} {x : Str} {p : V × Bool} (h : getL loc x = some p) : (loc.lookup x).isSome = true := by
  unfold getL at h
  cases q : loc.lookup x with
  | none => rw [q] at h; cases h
  | some _ => rfl

theorem noOwn_sub {own : Own} {x : Str} : ∀ y a, noOwn own x y = some a → own y = some a := fun y a e => by
  unfold noOwn at e
  split at e
  · cases e
  · exact e
theorem Fm.M_sub {f : Fm} {T : List Addr} {own own' : Own} (hs : ∀ y a, own' y = some a → own y = some a) {a : Addr} (h : f.M T own' a) : f.M T own a := by
  rcases h with h | h | h | ⟨x, h⟩ | h
  · exact .inl h
  · exact .inr (.inl h)
  · exact .inr (.inr (.inl h))
  · exact .inr (.inr (.inr (.inl ⟨x, hs x a h⟩)))
  · exact .inr (.inr (.inr (.inr h)))

/-- a name that owns what it holds hands it on and holds nothing: the address is a temporary now -/
theorem Inv.move {c : Cx} {f : Fm} {T : List Addr} {own : Own} {loc : Loc} {h : Heap} {x : Str} {a : Addr} (I : Inv c f T own loc h) (ho : own x = some a) (hk : kindAt f.sc x = some .local) :
    Inv c f (a :: T) (noOwn own x) (setL loc x Option.none) h ∧ ∀ b, f.M (a :: T) (noOwn own x) b ↔ f.M T own b := by
  have hM : ∀ b, f.M (a :: T) (noOwn own x) b ↔ f.M T own b := fun b => by
    constructor
    · rintro (hm | hm | hm | ⟨y, hm⟩ | hm)
      · exact .inl hm
      · exact .inr (.inl hm)
      · exact .inr (.inr (.inl hm))
      · exact .inr (.inr (.inr (.inl ⟨y, noOwn_sub y b hm⟩)))
      · rcases List.mem_cons.mp hm with rfl | hm
        · exact .inr (.inr (.inr (.inl ⟨x, ho⟩)))
        · exact .inr (.inr (.inr (.inr hm)))
    · rintro (hm | hm | hm | ⟨y, hm⟩ | hm)
      · exact .inl hm
      · exact .inr (.inl hm)
      · exact .inr (.inr (.inl hm))
      · by_cases hy : y = x
        · subst hy; rw [ho] at hm; cases hm; exact .inr (.inr (.inr (.inr (.head _))))
        · exact .inr (.inr (.inr (.inl ⟨y, by unfold noOwn; rw [if_neg hy]; exact hm⟩)))
      · exact .inr (.inr (.inr (.inr (.tail _ hm))))
  have l : Later h (f.M T own) h (f.M (a :: T) (noOwn own x)) := fun b o hb e => ⟨e, fun q => hb ((hM b).mp q)⟩
  obtain ⟨m, F, hm⟩ := I.fr
  have qa := I.ow x a ho
  refine ⟨⟨⟨m, F, fun y v b hg hky => ?_⟩, fun y v b hg hky => ?_, fun y hy hky => I.cellAt y (by rwa [lookup_setL_isSome] at hy) hky, fun y b e => ⟨(I.ow y b (noOwn_sub y b e)).1, fun q => ?_⟩, fun y z b e1 e2 => I.inj y z b (noOwn_sub _ _ e1) (noOwn_sub _ _ e2), fun b hb => ?_, List.nodup_cons.mpr ⟨qa.2, I.tnd⟩, I.xl, I.ml, I.mcs, I.xs⟩, hM⟩
  · rw [getL_setL] at hg
    by_cases hy : y = x
    · subst hy; simp at hg
    · rw [if_neg hy] at hg
      obtain ⟨xv, hx, hb⟩ := hm y v b hg hky
      exact ⟨xv, hx, hb.later l fun _ a' e => ⟨by unfold noOwn; rw [if_neg hy]; exact e, fun _ e' => e'⟩⟩
  · rw [getL_setL] at hg
    by_cases hy : y = x
    · subst hy; simp at hg
    · rw [if_neg hy] at hg
      obtain ⟨hb, kk, xv, h1, hx, h2, h3⟩ := I.cells y v b hg hky
      exact ⟨hb, kk, xv, h1, hx, h2, h3.later l⟩
  · rcases List.mem_cons.mp q with rfl | q
    · have hyx := I.inj y x b (noOwn_sub _ _ e) ho
      subst hyx
      unfold noOwn at e
      rw [if_pos rfl] at e
      cases e
    · exact (I.ow y b (noOwn_sub y b e)).2 q
  · rcases List.mem_cons.mp hb with rfl | hb
    · exact qa.1
    · exact I.tmp b hb

/-- a name that owns what it holds holds it on, but may not change it any more -/
theorem Inv.freeze {c : Cx} {f : Fm} {T : List Addr} {own : Own} {loc : Loc} {h : Heap} {x : Str} {v : V} (I : Inv c f T own loc h) (hg : getL loc x = some (v, true)) (hk : kindAt f.sc x = some .local) :
    Inv c f T (noOwn own x) (setL loc x (some (v, false))) h := by
  obtain ⟨m, F, hm⟩ := I.fr
  obtain ⟨xv, hx, hb⟩ := hm x v true hg hk
  unfold Bears at hb
  rw [if_pos rfl] at hb
  obtain ⟨a, rfl, ho, hr⟩ := hb
  obtain ⟨J, hM⟩ := I.move ho hk
  have J' := J.drop
  have l : Later h (f.M T own) h (f.M T (noOwn own x)) := fun b o hb e => ⟨e, fun q => hb (Fm.M_sub noOwn_sub q)⟩
  have hoff : ¬ f.M T (noOwn own x) a := J.temp_off
  have hrep : Rep c h (f.M T (noOwn own x)) v (.ref a) := (hr.later l fun _ e => e).rep hoff
  refine ⟨⟨m, F, fun y u b hgy hky => ?_⟩, fun y u b hgy hky => ?_, fun y hy hky => I.cellAt y (by rwa [lookup_setL_isSome] at hy) hky, J'.ow, J'.inj, J'.tmp, J'.tnd, I.xl, I.ml, I.mcs, I.xs⟩
  · rw [getL_setL] at hgy
    by_cases hy : y = x
    · subst hy
      rw [if_pos rfl, if_pos (getL_lookup hg)] at hgy
      cases hgy
      exact ⟨_, hx, by unfold Bears; rw [if_neg (by decide)]; exact hrep⟩
    · rw [if_neg hy] at hgy
      obtain ⟨xv, hx, hb⟩ := hm y u b hgy hky
      exact ⟨xv, hx, hb.later l fun _ a' e => ⟨by unfold noOwn; rw [if_neg hy]; exact e, fun _ e' => e'⟩⟩
  · rw [getL_setL] at hgy
    by_cases hy : y = x
    · subst hy
      rw [hk] at hky
      rcases hky with e | e <;> cases e
    · rw [if_neg hy] at hgy
      obtain ⟨hb, kk, xv, h1, hx, h2, h3⟩ := I.cells y u b hgy hky
      exact ⟨hb, kk, xv, h1, hx, h2, h3.later l⟩

end Mine
end
/-! Ops -/
section
set_option maxRecDepth 100000
namespace Mine
open PySem PySem.W PyProof.Rows

/-- t gives v, and nothing that stands is changed -/
noncomputable def Op (c : Cx) (A : Around) (M : Addr → Prop) (t : Sem Value) (v : V) (s : Shared) : Prop :=
  ∀ (Q : Value → Shared → Prop) (E : Value → Shared → Prop), (∀ x h' tk', KeepAll s.heap h' → Rep c h' M v x → Q x { s with heap := h', toks := tk' }) → wpAny (model c.prog c.w) A t Q E s

structure Room (A : Around) : Prop where
  hd : A.handled = none
  un : A.units + 80 < cLine

section
variable {c : Cx} {A : Around} {M : Addr → Prop} {s : Shared} {t : Sem Value} {v : V}

theorem Op.here {x : Value} {tk : Nat} (h : ∀ (Q : Value → Shared → Prop) (E : Value → Shared → Prop), Q x { s with toks := tk } → wpAny (model c.prog c.w) A t Q E s) (r : Rep c s.heap M v x) : Op c A M t v s :=
  fun Q E hQ => h Q E (hQ x s.heap tk (KeepAll.rfl' _) r)

theorem fresh_of {h : Heap} (hM : ∀ a, M a → ∃ o, h.get? a = some o) : ¬ M h.objs.size := fun hm => by
  obtain ⟨o, e⟩ := hM _ hm
  exact absurd (Heap.lt_size e) (Nat.lt_irrefl _)

theorem repl_eq (n : Nat) (xs : List Value) : List.foldl (fun x1 x2 => x1 ++ x2) #[] (List.replicate n (List.toArray xs)) = ((List.replicate n xs).flatten).toArray := by
  have gen : ∀ (n : Nat) (acc : Array Value), List.foldl (fun x1 x2 => x1 ++ x2) acc (List.replicate n (List.toArray xs)) = acc ++ ((List.replicate n xs).flatten).toArray := by
    intro n
    induction n with
    | zero => intro acc; simp
    | succ n ih => intro acc; rw [List.replicate_succ, List.foldl_cons, ih, List.replicate_succ, List.flatten_cons]; simp
  rw [gen]; simp
theorem Reps.repl {h : Heap} {vs : List V} {xs : List Value} (r : Reps c h M vs xs) : ∀ n : Nat, Reps c h M (repl n vs) (List.replicate n xs).flatten
  | 0 => by simpa [Mine.repl] using Reps.nil
  | n + 1 => by
    rw [List.replicate_succ, List.flatten_cons]
    exact r.append (r.repl n)

theorem fits_abs {i : Int} (h : fits i = true) : i.natAbs < 2 ^ 59 + 2 ^ 63 := by
  simp only [fits, Bool.and_eq_true, decide_eq_true_eq] at h
  omega
theorem fits_bits {i : Int} (h : fits i = true) : Builtin.Int.intBits i ≤ 64 := intBits_le (by have := fits_abs h; omega)

theorem small_le {n : Nat} (h : small n = true) : n ≤ 100000 := of_decide_eq_true h

theorem list_obj {h : Heap} {a : Addr} {xs : List Value} {n : Nat} (e : h.get? a = some { cls := .type "list", data := .seq (List.toArray xs) n }) : h.IsList a xs.toArray := ⟨_, e, rfl, n, rfl⟩

/-- + of two lists -/
theorem op_add_lists {l b : Addr} {xs ys : List Value} {n m : Nat} {vs us : List V} (hM : ∀ a, M a → ∃ o, s.heap.get? a = some o)
    (e1 : s.heap.get? l = some { cls := .type "list", data := .seq (List.toArray xs) n }) (r1 : Reps c s.heap M vs xs)
    (e2 : s.heap.get? b = some { cls := .type "list", data := .seq (List.toArray ys) m }) (r2 : Reps c s.heap M us ys) (hz : xs.length + ys.length ≤ sizeLine) : Op c A M (binaryOp .Add (.ref l) (.ref b)) (.list (vs ++ us)) s := by
  intro Q E hQ
  refine concat_meets ⟨_, e1, rfl⟩ ⟨_, e2, rfl⟩ noFill_list_add seq_list_add PySem.F.slot_list_add PySem.F.entry_list_add (PySem.F.args_list_add_2 _ _) (list_addW l b xs.toArray ys.toArray n m none none #[] #[] (by simpa using hz)) ⟨e1, e2, ?_⟩
  have k := KeepAll.push s.heap { cls := .type "list", data := .seq (xs.toArray ++ ys.toArray) }
  refine hQ _ _ s.toks k (.list (n := 0) (fresh_of hM) (xs := xs ++ ys) ?_ ((r1.append r2).later (k.later M)))
  rw [Heap.get?_push_size _ rfl]; simp

theorem op_mul_list {l : Addr} {xs : List Value} {n : Nat} {vs : List V} {k : Int} {u : Tok} (hM : ∀ a, M a → ∃ o, s.heap.get? a = some o)
    (e1 : s.heap.get? l = some { cls := .type "list", data := .seq (List.toArray xs) n }) (r1 : Reps c s.heap M vs xs) (h0 : 0 ≤ k) (h1 : k ≤ 100) (hz : xs.length * k.toNat ≤ 2 ^ 24) :
    Op c A M (binaryOp .Mult (.ref l) (.int k u)) (.list (repl k.toNat vs)) s := by
  intro Q E hQ
  refine wpAny_binaryOp_repeat_ref (T := "list") (U := "int") (by decide) ⟨_, e1, rfl⟩ (fun s' => typeIs_int s' k u) noFill_list_mul F.fills_int_mul F.slot_int_rmul repeat_list F.slot_int_index.lookup
    (call_meets F.slot_int_rmul (typeIs_int s k u) F.entry_int_rmul (F.args_int_rmul_2 _ _) (int___rmul___int_list k u l xs.toArray n)
      ⟨e1, rfl, ⟨_, e1, rfl⟩, call_meets F.slot_list_mul ⟨_, e1, rfl⟩ F.entry_list_mul (F.args_list_mul_2 _ _)
        (AutoListH.list___mul___list_int_3 l xs.toArray n k u (by simp [Builtin.List.listFitsIndex]; omega) (by rw [List.size_toArray]; omega) (by rw [List.size_toArray]; simp [Builtin.List.listTooLong, sizeLine]; omega))
        ⟨e1, ?_⟩⟩)
  rw [repl_eq]
  have kk := KeepAll.push s.heap { cls := .type "list", data := .seq ((List.replicate (if (List.toArray xs).isEmpty = true then 0 else k.toNat) xs).flatten).toArray }
  refine hQ _ _ s.toks kk (.list (n := 0) (fresh_of hM) (xs := (List.replicate k.toNat xs).flatten) ?_ ((r1.repl k.toNat).later (kk.later M)))
  rw [Heap.get?_push_size _ rfl]
  cases xs with
  | nil => simp
  | cons x xs => simp

theorem Op.of {t : Sem Value} {v w : V} (h : some w = some v) (r : Op c A M t w s) : Op c A M t v s := by cases h; exact r
theorem bin_ok {op : Operator} {a b : V} {x y : Value} (_hr : Room A) (hM : ∀ a, M a → ∃ o, s.heap.get? a = some o) (ra : Seen c s.heap M a x) (rb : Seen c s.heap M b y) (h : binV op a b = some v) : Op c A M (binaryOp op x y) v s := by
  cases op with
  | Add =>
    rcases inv_intlist h with ⟨i, j, rfl, rfl, h⟩ | ⟨i, j, rfl, rfl, h⟩
    · obtain ⟨t, rfl⟩ := ra.int
      obtain ⟨u, rfl⟩ := rb.int
      exact .of h (.here (fun Q E hq => P.add_int hq) (.int _ _))
    · obtain ⟨hs, h⟩ := if1 h
      obtain ⟨l, xs, n, rfl, e1, r1⟩ := ra.list
      obtain ⟨l', ys, m, rfl, e2, r2⟩ := rb.list
      refine .of h (op_add_lists hM e1 r1 e2 r2 ?_)
      have := small_le hs
      rw [r1.length, r2.length, sizeLine_eq]; omega
  | Sub =>
    obtain ⟨i, j, rfl, rfl, h⟩ := inv_intint h
    obtain ⟨t, rfl⟩ := ra.int
    obtain ⟨u, rfl⟩ := rb.int
    exact .of h (.here (fun Q E hq => P.sub_int hq) (.int _ _))
  | Mult =>
    obtain ⟨j, rfl, ⟨i, rfl, h⟩ | ⟨i, rfl, h⟩⟩ := inv_mult h
    · obtain ⟨hf, h⟩ := if1 h
      obtain ⟨t, rfl⟩ := ra.int
      obtain ⟨u, rfl⟩ := rb.int
      refine .of h (.here (fun Q E hq => P.mul_int hq ?_) (.int _ _))
      rcases Bool.or_eq_true_iff.mp hf with hf | hf
      · exact .of_left (fits_bits hf)
      · exact .of_right (fits_bits hf)
    · obtain ⟨hf, h⟩ := if1 h
      simp only [Bool.and_eq_true, decide_eq_true_eq] at hf
      obtain ⟨l, xs, n, rfl, e1, r1⟩ := ra.list
      obtain ⟨u, rfl⟩ := rb.int
      refine .of h (op_mul_list hM e1 r1 hf.1.1 hf.1.2 ?_)
      have := small_le hf.2
      rw [r1.length]; omega
  | FloorDiv =>
    obtain ⟨i, j, rfl, rfl, h⟩ := inv_intint h
    obtain ⟨hf, h⟩ := if1 h
    simp only [Bool.and_eq_true, decide_eq_true_eq] at hf
    obtain ⟨t, rfl⟩ := ra.int
    obtain ⟨u, rfl⟩ := rb.int
    exact .of h (.here (fun Q E hq => floordiv_int (by omega) hq (.inl (PyProof.noPylong_small (by omega)))) (.int _ _))
  | Mod =>
    obtain ⟨i, j, rfl, rfl, h⟩ := inv_intint h
    obtain ⟨hf, h⟩ := if1 h
    simp only [decide_eq_true_eq] at hf
    obtain ⟨t, rfl⟩ := ra.int
    obtain ⟨u, rfl⟩ := rb.int
    exact .of h (.here (fun Q E hq => mod_int' hf hq) (.int _ _))
  | Pow =>
    obtain ⟨i, j, rfl, rfl, h⟩ := inv_intint h
    obtain ⟨hf, h⟩ := if1 h
    simp only [Bool.and_eq_true, decide_eq_true_eq] at hf
    obtain ⟨t, rfl⟩ := ra.int
    obtain ⟨u, rfl⟩ := rb.int
    have := fits_abs hf.1.1
    exact .of h (.here (fun Q E hq => pow_int_small hf.1.2 (by omega) (by omega) hq) (.int _ _))
  | _ => exact no h
end
end Mine
end
/-! Ops2 -/
section
set_option maxRecDepth 100000
namespace Mine
open PySem PySem.W PyProof.Rows

section
variable {c : Cx} {A : Around} {M : Addr → Prop} {s : Shared}

theorem reps_ints {h : Heap} {vs : List V} : ∀ {xs : List Value} {ns : List Int}, Reps c h M vs xs → intsV vs = some ns → IntsAre xs ns := by
  induction vs with
  | nil => intro xs ns r e; rw [r.inv0, ← some1 e]; exact .nil
  | cons v vs ih =>
    intro xs ns r e
    obtain ⟨x, ys, rfl, a, r'⟩ := r.inv1
    obtain ⟨i, ms, rfl, q, rfl⟩ := inv_intsV e
    obtain ⟨t, rfl⟩ := a.seen.int
    exact .cons i t (ih r' q)
theorem reps_of_ints {h : Heap} {xs : List Value} {ns : List Int} (r : IntsAre xs ns) : Reps c h M (ns.map V.int) xs := by
  induction r with
  | nil => exact .nil
  | cons n t _ ih => exact .cons (.int n t) ih

theorem lookE_int : ∀ {es : List (Int × V)}, intE es = true → ∀ {k : Int} {v : V}, lookE es k = some v → ∃ j, v = .int j
  | [], _, k, v, e => by cases e
  | (k', w) :: r, hi, k, v, e => by
    obtain ⟨i, rfl, hi'⟩ := inv_intE hi
    rcases if2 (show (if k' = k then some (V.int i) else lookE r k) = some v from e) with ⟨_, e⟩ | ⟨_, e⟩
    · exact ⟨i, (some1 e).symm⟩
    · exact lookE_int hi' e

theorem hits_of {h : Heap} {M' : Addr → Prop} {es' : List (Int × V)} {kvs' : List (Int × Value)} (r' : RepE c h M' es' kvs') (hi' : intE es' = true) {es : List (Int × V)} :
    ∀ {kvs : List (Int × Value)}, RepE c h M es kvs → intE es = true → KeqHits A s kvs' kvs (subE es es') := by
  induction es with
  | nil => intro kvs r _; rw [r.inv0]; exact KeqHits.nil
  | cons p es ih =>
    intro kvs r hi
    obtain ⟨x, ys, rfl, a, rr⟩ := r.inv1
    obtain ⟨k, v⟩ := p
    obtain ⟨i, rfl, hi2⟩ := inv_intE hi
    obtain ⟨t, rfl⟩ := a.seen.int
    show KeqHits A s kvs' _ (match lookE es' k with | some (.int j) => i == j && subE es es' | _ => false)
    rcases r'.look k with ⟨h1, h2⟩ | ⟨w, y, h1, h2, h3⟩
    · rw [h1]
      exact .miss h2
    · obtain ⟨j, rfl⟩ := lookE_int hi' h1
      obtain ⟨u, rfl⟩ := h3.seen.int
      rw [h1]
      exact .hit h2 (SeqAt.EqAt.int_int i t j u) (ih rr hi2)

theorem dict_any {prog prog' : Program} {w w' : World} {h : Heap} {a : Addr} {kvs : List (Int × Value)} (d : h.DictOf (intKind prog w) a kvs) : h.DictOf (intKind prog' w') a kvs := by
  obtain ⟨o, es, ep, h1, h2, h3, h4, h5, h6⟩ := d
  refine ⟨o, es, ep, h1, h2, h3, h4, ?_, h6⟩
  clear h4 h6 h3 h1 h2
  generalize es.toList = l at h5
  induction h5 with
  | nil => exact .nil
  | cons a b _ ih => exact .cons a b ih

theorem rc_dict {a b : Addr} {ka kb : List (Int × Value)} {ea eb : List (Int × V)} {M' : Addr → Prop} (la : (a == sysModules) = false) (lb : (b == sysModules) = false) (da : s.heap.DictOf (intKind c.prog c.w) a ka) (db : s.heap.DictOf (intKind c.prog c.w) b kb)
    (ra : RepE c s.heap M ea ka) (rb : RepE c s.heap M' eb kb) (ia : intE ea = true) (ib : intE eb = true) (hu : A.units < cLine) : SeqAt.RcAt A s (.ref a) (.ref b) (eqD ea eb) := fun prog w E Q hq => by
  refine keq_eq (prog := prog) (w := w) (knd := intKind prog w) la lb (dict_any da) (dict_any db) hu (fun _ => hits_of rb ib ra ia) ?_
  rw [ra.length, rb.length]
  exact hq

theorem pairs_det {prog : Program} {w : World} {es : List DictEntry} {k1 : List (Int × Value)} (r : Pairs (intKind prog w) es k1) : ∀ {k2 : List (Int × Value)}, Pairs (intKind prog w) es k2 → k1 = k2 := by
  induction r with
  | nil => intro k2 r; cases r; rfl
  | cons a b _ ih =>
    intro k2 r
    cases r with
    | cons a' b' r' => rw [ih r', Prod.ext ((intKind prog w).inj _ _ _ a a') (b.symm.trans b')]
theorem repE_det {h : Heap} {M' : Addr → Prop} {e1 : List (Int × V)} : ∀ {e2 : List (Int × V)} {kvs : List (Int × Value)}, RepE c h M e1 kvs → RepE c h M' e2 kvs → intE e1 = true → intE e2 = true → e1 = e2 := by
  induction e1 with
  | nil =>
    intro e2 kvs r r' _ _
    have e := r.inv0
    subst e
    cases r'; rfl
  | cons p e1 ih =>
    intro e2 kvs r r' i1 i2
    obtain ⟨x, ys, rfl, a, rr⟩ := r.inv1
    cases e2 with
    | nil => cases r'
    | cons p' e2 =>
      obtain ⟨x', ys', e, a', rr'⟩ := r'.inv1
      obtain ⟨k, v⟩ := p
      obtain ⟨k', v'⟩ := p'
      obtain ⟨i, rfl, j1⟩ := inv_intE i1
      obtain ⟨j, rfl, j2⟩ := inv_intE i2
      obtain ⟨t, rfl⟩ := a.seen.int
      obtain ⟨t', rfl⟩ := a'.seen.int
      cases e
      rw [ih rr rr' j1 j2]
theorem lookE_mem : ∀ {es : List (Int × V)}, (es.map (·.1)).Nodup → ∀ {k : Int} {v : V}, (k, v) ∈ es → lookE es k = some v
  | (k', w) :: r, hn, k, v, hm => by
    rw [List.map_cons, List.nodup_cons] at hn
    rcases List.mem_cons.mp hm with e | hm
    · cases e; simp [lookE]
    · have hne : ¬ k' = k := fun e => hn.1 (List.mem_map.mpr ⟨(k, v), hm, e.symm⟩)
      simp only [lookE, if_neg hne]
      exact lookE_mem hn.2 hm
theorem subE_self {es : List (Int × V)} (hn : (es.map (·.1)).Nodup) : ∀ {l : List (Int × V)}, (∀ p ∈ l, p ∈ es) → intE l = true → subE l es = true
  | [], _, _ => rfl
  | (k, v) :: r, hs, hi => by
    obtain ⟨i, rfl, hi⟩ := inv_intE hi
    show (match lookE es k with | some (.int j) => i == j && subE r es | _ => false) = true
    rw [lookE_mem hn (hs _ (.head _))]
    show (i == i && subE r es) = true
    rw [beq_self_eq_true, Bool.true_and]
    exact subE_self hn (fun p hp => hs p (.tail _ hp)) hi

theorem eq_dict {a b : Addr} {ka kb : List (Int × Value)} {ea eb : List (Int × V)} {M' : Addr → Prop} (la : (a == sysModules) = false) (lb : (b == sysModules) = false) (da : s.heap.DictOf (intKind c.prog c.w) a ka) (db : s.heap.DictOf (intKind c.prog c.w) b kb)
    (ra : RepE c s.heap M ea ka) (rb : RepE c s.heap M' eb kb) (ia : intE ea = true) (ib : intE eb = true) (hu : A.units < cLine) : SeqAt.EqAt A s (.ref a) (.ref b) (eqD ea eb) := by
  by_cases h : a = b
  · subst h
    have e : ka = kb := by
      obtain ⟨o, es, ep, h1, _, h3, _, h5, _⟩ := da
      obtain ⟨o', es', ep', h1', _, h3', _, h5', _⟩ := db
      rw [h1] at h1'; cases h1'
      rw [h3] at h3'; cases h3'
      exact pairs_det h5 h5'
    subst e
    have e := repE_det ra rb ia ib
    subst e
    have hn : (ea.map (·.1)).Nodup := by
      obtain ⟨_, _, _, _, _, _, _, _, hn⟩ := da
      rw [← ra.keys]; exact hn
    have : eqD ea ea = true := by simp [eqD, subE_self hn (fun p hp => hp) ia]
    rw [this]
    exact .same _
  · exact .of_refs h (rc_dict la lb da db ra rb ia ib hu)

theorem eq1_at {a b : V} {x y : Value} {r : Bool} (ra : Rep c s.heap M a x) (rb : Rep c s.heap M b y) (hu : A.units < cLine) (h : eq1 a b = some r) : SeqAt.EqAt A s x y r := by
  rcases inv_eq1 h with ⟨i, j, rfl, rfl, h⟩ | ⟨i, j, rfl, rfl, h⟩
  · obtain rfl := some1 h
    obtain ⟨t, rfl⟩ := ra.seen.int
    obtain ⟨u, rfl⟩ := rb.seen.int
    exact .int_int _ _ _ _
  · obtain ⟨hi, h⟩ := if1 h
    obtain rfl := some1 h
    rw [Bool.and_eq_true] at hi
    obtain ⟨a, ka, rfl, la, da, ra'⟩ := ra.seen.dict
    obtain ⟨b, kb, rfl, lb, db, rb'⟩ := rb.seen.dict
    exact eq_dict la lb da db ra' rb' hi.1 hi.2 hu

theorem eqAll_at {as : List V} : ∀ {bs : List V} {xs ys : List Value} {r : Bool}, Reps c s.heap M as xs → Reps c s.heap M bs ys → A.units < cLine → eqAll as bs = some r →
    ∃ l : List Bool, l.length = xs.length ∧ ys.length = xs.length ∧ r = l.all id ∧ ∀ (j : Nat) (h1 : j < xs.length) (h2 : j < ys.length), SeqAt.EqAt A s xs[j] ys[j] (l.getD j false) := by
  induction as with
  | nil =>
    intro bs xs ys r ra rb _ e
    cases bs with
    | nil =>
      obtain rfl := some1 e
      rw [ra.inv0, rb.inv0]
      exact ⟨[], rfl, rfl, rfl, fun j h1 => absurd h1 (Nat.not_lt_zero _)⟩
    | cons _ _ => exact no e
  | cons v as ih =>
    intro bs xs ys r ra rb hu e
    cases bs with
    | nil => exact no e
    | cons u bs =>
      obtain ⟨p, hp, e⟩ := bs1 e
      obtain ⟨q, hq, e⟩ := bs1 e
      obtain ⟨x, xs, rfl, a, ra⟩ := ra.inv1
      obtain ⟨y, ys, rfl, b, rb⟩ := rb.inv1
      obtain ⟨l, h1, h2, h3, h4⟩ := ih ra rb hu hq
      refine ⟨p :: l, congrArg (· + 1) h1, congrArg (· + 1) h2, by rw [← some1 e, h3]; rfl, fun j j1 j2 => ?_⟩
      cases j with
      | zero => exact eq1_at a b hu hp
      | succ j => exact h4 j (Nat.lt_of_succ_lt_succ j1) (Nat.lt_of_succ_lt_succ j2)

theorem all_range (l : List Bool) : ((List.range l.length).all fun j => l.getD j false) = l.all id := by
  rw [Bool.eq_iff_iff, List.all_eq_true, List.all_eq_true]
  constructor
  · intro h b hb
    obtain ⟨j, hj, rfl⟩ := List.mem_iff_getElem.mp hb
    have := h j (List.mem_range.mpr hj)
    simpa [List.getD, hj] using this
  · intro h j hj
    have hj := List.mem_range.mp hj
    have := h l[j] (List.getElem_mem hj)
    simpa [List.getD, hj] using this

theorem Op.ofb {t : Sem Value} {v w : Bool} (h : some w = some v) (r : Op c A M t (.bool w) s) : Op c A M t (.bool v) s := by cases h; exact r
theorem cmp_ok_eq {a b : V} {x y : Value} {r : Bool} (hr : Room A) (ra : Seen c s.heap M a x) (rb : Seen c s.heap M b y) (h : cmpV .Eq a b = some r) : Op c A M (compareOp .Eq x y) (.bool r) s := by
  have hu : A.units < cLine := by have := hr.un; omega
  have hu2 : A.units + 64 < cLine := by have := hr.un; omega
  have hu1 : A.in1.units < cLine := by have := hr.un; rw [Around.in1_units]; omega
  rcases inv_eq h with ⟨i, j, rfl, rfl, h⟩ | ⟨i, j, rfl, rfl, h⟩ | ⟨i, j, rfl, rfl, h⟩ | ⟨i, j, rfl, rfl, h⟩
  · obtain ⟨t, rfl⟩ := ra.int
    obtain ⟨u, rfl⟩ := rb.int
    exact .ofb h (.here (fun Q E hq => P.eq_int hq) (.bool _))
  · obtain ⟨hi, h⟩ := if1 h
    rw [Bool.and_eq_true] at hi
    obtain ⟨a1, ka, rfl, la, da, raE⟩ := ra.dict
    obtain ⟨b1, kb, rfl, lb, db, rbE⟩ := rb.dict
    exact .ofb h (.here (fun Q E hq => rc_dict la lb da db raE rbE hi.1 hi.2 hu c.prog c.w E Q hq) (.bool _))
  · obtain ⟨p, q, hp, hq, h⟩ := inv_both h
    obtain ⟨a1, xs, n, rfl, e1, r1⟩ := ra.list
    obtain ⟨b1, ys, m, rfl, e2, r2⟩ := rb.list
    have i1 := reps_ints r1 hp
    have i2 := reps_ints r2 hq
    refine .ofb h (.here (tk := s.toks) (fun Q E hq => eq_dataH (reads_of_ints (list_obj e1) i1) (reads_of_ints (list_obj e2) i2) (shaped_ints _) (shaped_ints _) hu2 ?_) (.bool _))
    rw [PyData.eqv, ked_eqvAll]
    exact hq
  · obtain ⟨a1, xs, n, rfl, e1, r1⟩ := ra.tup
    obtain ⟨b1, ys, m, rfl, e2, r2⟩ := rb.tup
    obtain ⟨l, h1, h2, h3, h4⟩ := eqAll_at (A := A.in1) r1 r2 hu1 h
    subst h3
    refine .here (tk := s.toks) (fun Q E hq => SeqAt.eq_tupleAt (e := fun j => l.getD j false) ⟨_, e1, rfl, _, rfl⟩ ⟨_, e2, rfl, _, rfl⟩ hu (fun j j1 j2 => by simpa using h4 j (by simpa using j1) (by simpa using j2)) ?_) (.bool _)
    have e : ((List.range (min (List.toArray xs).size (List.toArray ys).size)).all (fun j => l.getD j false) && (List.toArray xs).size == (List.toArray ys).size) = l.all id := by
      rw [List.size_toArray, List.size_toArray, h2, Nat.min_self, beq_self_eq_true, Bool.and_true, ← h1, all_range]
    rw [e]
    exact hq
theorem cmp_ok_ne {a b : V} {x y : Value} {r : Bool} (hr : Room A) (ra : Seen c s.heap M a x) (rb : Seen c s.heap M b y) (h : cmpV .NotEq a b = some r) : Op c A M (compareOp .NotEq x y) (.bool r) s := by
  have hu : A.units < cLine := by have := hr.un; omega
  have hu2 : A.units + 64 < cLine := by have := hr.un; omega
  rcases inv_ne h with ⟨i, j, rfl, rfl, h⟩ | ⟨i, j, rfl, rfl, h⟩ | ⟨i, j, rfl, rfl, h⟩
  · obtain ⟨t, rfl⟩ := ra.int
    obtain ⟨u, rfl⟩ := rb.int
    exact .ofb h (.here (fun Q E hq => P.ne_int hq) (.bool _))
  · obtain ⟨hi, h⟩ := if1 h
    rw [Bool.and_eq_true] at hi
    obtain ⟨a1, ka, rfl, la, da, raE⟩ := ra.dict
    obtain ⟨b1, kb, rfl, lb, db, rbE⟩ := rb.dict
    refine .ofb h (.here (tk := s.toks) (fun Q E hq => keq_ne la lb da db hu (fun _ => hits_of rbE hi.2 raE hi.1) ?_) (.bool _))
    rw [raE.length, rbE.length]
    exact hq
  · obtain ⟨p, q, hp, hq, h⟩ := inv_both h
    obtain ⟨a1, xs, n, rfl, e1, r1⟩ := ra.tup
    obtain ⟨b1, ys, m, rfl, e2, r2⟩ := rb.tup
    have i1 := reps_ints r1 hp
    have i2 := reps_ints r2 hq
    have sh : ∀ ns : List Int, SeqAt.shaped (PyData.tuple (ns.map PyData.int)) = true := fun ns => by
      have := shaped_ints ns
      simpa [SeqAt.shaped, PyData.canLay0, PyData.depth] using this
    refine .ofb h (.here (tk := s.toks) (fun Q E hq => ne_dataH (reads_tuple_ints ⟨_, e1, rfl, _, rfl⟩ i1) (reads_tuple_ints ⟨_, e2, rfl, _, rfl⟩ i2) (sh _) (sh _) hu2 ?_) (.bool _))
    rw [PyData.eqv, ked_eqvAll]
    exact hq
theorem cmp_ok {op : CmpOp} {a b : V} {x y : Value} {r : Bool} (hr : Room A) (ra : Seen c s.heap M a x) (rb : Seen c s.heap M b y) (h : cmpV op a b = some r) : Op c A M (compareOp op x y) (.bool r) s := by
  cases op with
  | Eq => exact cmp_ok_eq hr ra rb h
  | NotEq => exact cmp_ok_ne hr ra rb h
  | Lt =>
    rcases inv_intstr h with ⟨i, j, rfl, rfl, h⟩ | ⟨i, j, rfl, rfl, h⟩
    · obtain ⟨t, rfl⟩ := ra.int
      obtain ⟨u, rfl⟩ := rb.int
      exact .ofb h (.here (fun Q E hq => P.lt_int hq) (.bool _))
    · obtain ⟨t, rfl⟩ := ra.str
      obtain ⟨u, rfl⟩ := rb.str
      exact .ofb h (.here (fun Q E hq => P.lt_str hq) (.bool _))
  | Gt =>
    rcases inv_intstr h with ⟨i, j, rfl, rfl, h⟩ | ⟨i, j, rfl, rfl, h⟩
    · obtain ⟨t, rfl⟩ := ra.int
      obtain ⟨u, rfl⟩ := rb.int
      exact .ofb h (.here (fun Q E hq => P.gt_int hq) (.bool _))
    · obtain ⟨t, rfl⟩ := ra.str
      obtain ⟨u, rfl⟩ := rb.str
      exact .ofb h (.here (fun Q E hq => P.gt_str hq) (.bool _))
  | Is =>
    obtain ⟨rfl, h'⟩ := inv_is h
    rw [rb.none]
    clear h
    rcases h' with ⟨rfl, h⟩ | ⟨i, rfl, h⟩ | ⟨i, rfl, h⟩
    · rw [ra.none]
      exact .ofb h (.here (fun Q E hq => is_none hq) (.bool _))
    · obtain ⟨a1, ka, rfl, la, da, raE⟩ := ra.dict
      exact .ofb h (.here (fun Q E hq => is_none hq) (.bool _))
    · obtain ⟨a1, xs, n, rfl, e1, r1⟩ := ra.tup
      exact .ofb h (.here (fun Q E hq => is_none hq) (.bool _))
  | In =>
    obtain ⟨k, es, rfl, rfl, h⟩ := inv_intdict h
    obtain ⟨t, rfl⟩ := ra.int
    obtain ⟨b1, kb, rfl, lb, db, rbE⟩ := rb.dict
    refine .ofb h (.here (tk := s.toks + 1) (fun Q E hq => wpAny_in_of (knd := intKind c.prog c.w) (k := k) (by simp [intKind, Value.isInt]) lb db.mapOf ?_) (.bool _))
    rcases rbE.look k with ⟨h1, h2⟩ | ⟨w, y, h1, h2, h3⟩ <;> rw [h1] at hq <;> rw [h2] <;> exact hq
  | NotIn =>
    obtain ⟨k, es, rfl, rfl, h⟩ := inv_intdict h
    obtain ⟨t, rfl⟩ := ra.int
    obtain ⟨b1, kb, rfl, lb, db, rbE⟩ := rb.dict
    refine .ofb h (.here (tk := s.toks + 1) (fun Q E hq => wpAny_notIn_of (knd := intKind c.prog c.w) (k := k) (by simp [intKind, Value.isInt]) lb db.mapOf ?_) (.bool _))
    rcases rbE.look k with ⟨h1, h2⟩ | ⟨w, y, h1, h2, h3⟩ <;> rw [h1] at hq <;> rw [h2] <;> exact hq
  | _ => exact no h
end
end Mine
end
/-! Ops3 -/
section
set_option maxRecDepth 100000
namespace Mine
open PySem PySem.W PyProof.Rows

/-- not a slice without a step -/
noncomputable def notSlice : Expr → Bool
  | .Slice _ _ Option.none _ => false
  | _ => true
theorem subs_eq {slice : Expr} (h : notSlice slice = true) (o i : Value) : subscripted slice false o i = operate [o, i] (getItem o i) := by
  cases slice with
  | Slice a b d p =>
    cases d with
    | none => exact absurd h Bool.false_ne_true
    | some _ => rfl
  | _ => rfl

theorem lt_of_get {α : Type} {l : List α} {k : Nat} {z : α} (h : l[k]? = some z) : k < l.length := (List.getElem?_eq_some_iff.mp h).1
theorem seq_at {xs : List Value} {k : Int} (h : 0 ≤ k) (hlt : k.toNat < xs.length) : seqIndex? k (List.toArray xs).size = some k.toNat := by
  rw [List.size_toArray]
  unfold seqIndex?
  have h0 : ¬ k < 0 := by omega
  simp [h0]; omega

section
variable {c : Cx} {A : Around} {M : Addr → Prop} {s : Shared}

theorem item_ok {a b : V} {x y : Value} {v : V} {value slice : Expr} (ra : Seen c s.heap M a x) (rb : Seen c s.heap M b y) (hs : notSlice slice = true) (h : itemV a b = some v) : Op c A M (subscriptTail value slice x y) v s := by
  obtain ⟨k, rfl, h'⟩ := inv_item h
  clear h
  obtain ⟨u, rfl⟩ := rb.int
  rcases h' with ⟨vs, rfl, h⟩ | ⟨vs, rfl, h⟩ | ⟨es, rfl, h⟩ | ⟨st, rfl, h⟩
  · obtain ⟨hf, h⟩ := if1 h
    simp only [Bool.and_eq_true, decide_eq_true_eq] at hf
    obtain ⟨l, xs, n, rfl, e1, r1⟩ := ra.list
    obtain ⟨z, hz, rz⟩ := r1.get h
    exact .here (tk := s.toks) (fun Q E hq => tail_any (T := "list") ⟨_, e1, rfl⟩ slot_list_getitem.lookup (wpAny_getItem_list (list_obj e1) hf.1 (by omega) (by simpa using hz) hq) (subs_eq hs _ _)) rz
  · obtain ⟨hf, h⟩ := if1 h
    simp only [Bool.and_eq_true, decide_eq_true_eq] at hf
    obtain ⟨l, xs, n, rfl, e1, r1⟩ := ra.tup
    obtain ⟨z, hz, rz⟩ := r1.get h
    exact .here (tk := s.toks) (fun Q E hq => tail_any (T := "tuple") ⟨_, e1, rfl⟩ slot_tuple_getitem.lookup (getItem_tuple (j := k.toNat) ⟨_, e1, rfl, n, rfl⟩ (by omega) (by omega) (seq_at hf.1 (lt_of_get hz)) (by simpa using hz) hq) (subs_eq hs _ _)) rz
  · obtain ⟨a1, ka, rfl, la, da, raE⟩ := ra.dict
    rcases raE.look k with ⟨h1, _⟩ | ⟨w, z, h1, h2, h3⟩
    · rw [h1] at h; exact no h
    · rw [h1] at h
      obtain rfl := some1 h
      exact .here (tk := s.toks + 1) (fun Q E hq => tail_any (T := "dict") da.typeIs slot_dict_getitem.lookup (wpAny_getItem_of (knd := intKind c.prog c.w) (k := k) (by simp [intKind, Value.isInt]) da.mapOf h2 hq) (subs_eq hs _ _)) h3
  · obtain ⟨hf, h⟩ := if1 h
    simp only [Bool.and_eq_true, decide_eq_true_eq] at hf
    obtain ⟨t, rfl⟩ := ra.str
    obtain ⟨ch, hc, hv⟩ := Option.map_eq_some_iff.mp h
    subst hv
    have hlt : k.toNat < st.cps.size := by
      rcases Nat.lt_or_ge k.toNat st.cps.size with q | q
      · exact q
      · rw [Array.getElem?_eq_none q] at hc; cases hc
    refine .here (tk := s.toks + 1) (fun Q E hq => tail_any (T := "str") (typeIs_str s st t) F.slot_str_getitem.lookup (P.getItem_str (c := ch) ?_ ?_ hq) (subs_eq hs _ _)) (.str _ _)
    · simp; omega
    · have e : seqIndex? k st.length = some k.toNat := by
        unfold seqIndex?
        have h0 : ¬ k < 0 := by omega
        simp [Str.length, h0]; omega
      rw [e]; exact hc

/-- what a built-in's name stands for -/
noncomputable def builtVal : String → Value
  | "isinstance" => .builtin "isinstance"
  | "sum" => .builtin "sum"
  | "len" => .builtin "len"
  | "sorted" => .builtin "sorted"
  | g => .type g

theorem reps_keys {h : Heap} : ∀ {es : List (Int × V)} {xs : List Value}, xs.length = es.length → (∀ (j : Nat) (v : Value), xs[j]? = some v → ∃ (p : Int × V) (t : Tok), es[j]? = some p ∧ v = .int p.1 t) → Reps c h M (es.map fun e => V.int e.1) xs
  | [], [], _, _ => .nil
  | e :: es, v :: xs, hl, hv => by
    obtain ⟨p, t, hp, rfl⟩ := hv 0 v rfl
    simp at hp
    subst hp
    exact .cons (.int _ t) (reps_keys (by simpa using hl) fun j u hu => by simpa using hv (j + 1) u (by simpa using hu))
  | [], _ :: _, hl, _ => by simp at hl
  | _ :: _, [], hl, _ => by simp at hl

theorem insI_perm (x : Int) : ∀ l : List Int, (insI x l).Perm (x :: l)
  | [] => .refl _
  | y :: r => by
    unfold insI
    split
    · exact .refl _
    · exact ((insI_perm x r).cons y).trans (.swap x y r)
theorem insI_sorted (x : Int) : ∀ {l : List Int}, l.Pairwise (· ≤ ·) → (insI x l).Pairwise (· ≤ ·)
  | [], _ => by simp [insI]
  | y :: r, h => by
    rw [List.pairwise_cons] at h
    unfold insI
    split
    · rename_i hxy
      refine List.pairwise_cons.mpr ⟨fun z hz => ?_, List.pairwise_cons.mpr h⟩
      rcases List.mem_cons.mp hz with rfl | hz
      · exact hxy
      · exact Int.le_trans hxy (h.1 z hz)
    · rename_i hxy
      refine List.pairwise_cons.mpr ⟨fun z hz => ?_, insI_sorted x h.2⟩
      rcases List.mem_cons.mp ((insI_perm x r).subset hz) with rfl | hz
      · omega
      · exact h.1 z hz
theorem sortI_perm : ∀ l : List Int, (sortI l).Perm l
  | [] => .refl _
  | x :: r => (insI_perm x _).trans ((sortI_perm r).cons x)
theorem sortI_sorted : ∀ l : List Int, (sortI l).Pairwise (· ≤ ·)
  | [] => .nil
  | x :: r => insI_sorted x (sortI_sorted r)

inductive Seens (c : Cx) (h : Heap) (M : Addr → Prop) : List V → List Value → Prop
  | nil : Seens c h M [] []
  | cons {v x vs xs} : Seen c h M v x → Seens c h M vs xs → Seens c h M (v :: vs) (x :: xs)
theorem Seens.one {h : Heap} {v : V} {xs : List Value} (r : Seens c h M [v] xs) : ∃ x, xs = [x] ∧ Seen c h M v x := by
  cases r with | cons a r => cases r; exact ⟨_, rfl, a⟩

theorem typeIs_int {i : Int} {g : String} {b : Bool} (h : typeIs (.int i) g = some b) : (g = "tuple" ∧ false = b) ∨ (g = "bool" ∧ false = b) := by
  unfold typeIs at h
  split at h
  · exact .inl ⟨rfl, some1 h⟩
  · exact .inr ⟨rfl, some1 h⟩
  · exact no h
theorem bok_isi {vs : List V} {xs : List Value} {v : V} (hr : Room A) (h2 : 2 ≤ s.heap.objs.size) (hM : ∀ a, M a → ∃ o, s.heap.get? a = some o) (ra : Seens c s.heap M vs xs) (h : bIsi vs = some v) : Op c A M (call (builtVal "isinstance") xs) v s := by
  -- isinstance
  obtain ⟨w, tn, rfl, g0⟩ := inv_isi h
  obtain ⟨b, hb, rfl⟩ := Option.map_eq_some_iff.mp g0
  cases ra with | cons a r => cases r with | cons a2 r =>
  cases r
  rw [a2.ty]
  cases w with
  | int i =>
    obtain ⟨t, rfl⟩ := a.int
    rcases typeIs_int hb with ⟨rfl, rfl⟩ | ⟨rfl, rfl⟩
    · exact .here (tk := s.toks + 1) (fun Q E hq => IsiPair.int_tuple hq) (.bool _)
    · exact .here (tk := s.toks + 1) (fun Q E hq => IsiPair.int_bool hq) (.bool _)
  | _ => exact no hb
theorem bok_list {vs : List V} {xs : List Value} {v : V} (hr : Room A) (h2 : 2 ≤ s.heap.objs.size) (hM : ∀ a, M a → ∃ o, s.heap.get? a = some o) (ra : Seens c s.heap M vs xs) (h : b1 (fun v => match v with | .dict es => if small es.length then some (.list (es.map fun e => .int e.1)) else Option.none | _ => Option.none) vs = some v) : Op c A M (call (builtVal "list") xs) v s := by
  -- list of a dict
  obtain ⟨w, rfl, g0⟩ := inv_b1 h
  obtain ⟨es, rfl, g1⟩ := inv_dict g0
  obtain ⟨hs, g2⟩ := if1 g1
  refine .of g2 ?_
  obtain ⟨x, rfl, a⟩ := ra.one
  obtain ⟨d, kvs, rfl, ld, dd, re⟩ := a.dict
  obtain ⟨ep, hat⟩ := dd.dictAt
  intro Q E hQ
  refine kdl_call (kdl_dict (knd := intKind c.prog c.w) (kvs := kvs) (ep := ep) ld) hr.hd hat ?_ fun h' tk acc' c' hk hD hacc => ?_
  · have := small_le hs; rw [re.length, sizeLine_eq]; omega
  · refine hQ _ h' tk hk (.list (n := c') (xs := acc'.toList) (fresh_of hM) (by simpa using hD) (reps_keys ?_ fun j u hu => ?_))
    · rw [Array.length_toList, hacc.1, re.length]
    · rw [Array.getElem?_toList] at hu
      obtain ⟨k, y, hk1, hk2⟩ := hacc.2 j u hu
      obtain ⟨t, rfl⟩ := Value.isInt_shape hk2
      have e : (kvs.map (·.1))[j]? = some k := by rw [List.getElem?_map, hk1]; rfl
      rw [re.keys, List.getElem?_map] at e
      obtain ⟨p, hp, he⟩ := Option.map_eq_some_iff.mp e
      exact ⟨p, t, hp, by rw [he]⟩
theorem bok_dict {vs : List V} {xs : List Value} {v : V} (hr : Room A) (h2 : 2 ≤ s.heap.objs.size) (hM : ∀ a, M a → ∃ o, s.heap.get? a = some o) (ra : Seens c s.heap M vs xs) (h : b1 (fun v => match v with | .dict es => if small es.length then some (.dict es) else Option.none | _ => Option.none) vs = some v) : Op c A M (call (builtVal "dict") xs) v s := by
  -- a copy of a dict
  obtain ⟨w, rfl, g0⟩ := inv_b1 h
  obtain ⟨es, rfl, g1⟩ := inv_dict g0
  obtain ⟨hs, g2⟩ := if1 g1
  refine .of g2 ?_
  obtain ⟨x, rfl, a⟩ := ra.one
  obtain ⟨d, kvs, rfl, ld, dd, re⟩ := a.dict
  intro Q E hQ
  refine kt_call_dict ld dd (by have := small_le hs; rw [re.length, sizeLine_eq]; omega) fun h' hd hsb => ?_
  have k : KeepAll s.heap h' := fun b o e => hsb.extBut b o (Nat.ne_of_lt (Heap.lt_size e)) (Heap.get?_push_of_some _ e)
  refine hQ _ h' s.toks k (.dict (fresh_of hM) ?_ hd (re.later (k.later M)))
  rw [beq_eq_false_iff_ne]
  exact Nat.ne_of_gt h2
theorem bok_sum {vs : List V} {xs : List Value} {v : V} (hr : Room A) (h2 : 2 ≤ s.heap.objs.size) (hM : ∀ a, M a → ∃ o, s.heap.get? a = some o) (ra : Seens c s.heap M vs xs) (h : b1 (fun v => match v with | .list vs => (intsV vs).bind fun l => some (.int l.sum) | _ => Option.none) vs = some v) : Op c A M (call (builtVal "sum") xs) v s := by
  -- sum
  obtain ⟨w, rfl, g0⟩ := inv_b1 h
  obtain ⟨vs, rfl, g1⟩ := inv_list g0
  obtain ⟨l, hl, g2⟩ := bs1 g1
  refine .of g2 ?_
  obtain ⟨x, rfl, a⟩ := ra.one
  obtain ⟨a1, ys, n, rfl, e1, r1⟩ := a.list
  have hi := reps_ints r1 hl
  obtain ⟨zs, hx⟩ := hi.allInts.items
  have hn : numsOf ys.toArray.toList = l := by rw [show ys.toArray.toList = ys from rfl, hi.numsOf]
  have hL := list_obj e1
  rw [hx] at hL hn
  rw [nums_intItems] at hn
  intro Q E hQ
  refine sum_intListG hr.hd hL fun h' tk t' hk => ?_
  rw [preSum_eq, List.take_of_length_le (by simp), hn]
  exact hQ _ h' tk hk (.int _ _)
theorem bok_len {vs : List V} {xs : List Value} {v : V} (hr : Room A) (h2 : 2 ≤ s.heap.objs.size) (hM : ∀ a, M a → ∃ o, s.heap.get? a = some o) (ra : Seens c s.heap M vs xs) (h : b1 (fun v => match v with | .list vs => if small vs.length then some (.int vs.length) else Option.none | .dict es => if small es.length then some (.int es.length) else Option.none | _ => Option.none) vs = some v) : Op c A M (call (builtVal "len") xs) v s := by
  -- len
  obtain ⟨w, rfl, g0⟩ := inv_b1 h
  obtain ⟨x, rfl, a⟩ := ra.one
  rcases inv_listdict g0 with ⟨vs, rfl, g1⟩ | ⟨es, rfl, g1⟩
  · obtain ⟨hs, gg⟩ := if1 g1
    obtain ⟨a1, ys, n, rfl, e1, r1⟩ := a.list
    have e : (ys.toArray).size = ys.length := by simp
    have hs := small_le hs
    refine .of gg (.here (tk := s.toks + 1 + 1) (fun Q E hq => Calls.call_len_list (list_obj e1) ?_ hq) ?_)
    · rw [e, r1.length]; omega
    · rw [e, r1.length]; exact .int _ _
  · obtain ⟨hs, gg⟩ := if1 g1
    obtain ⟨d, kvs, rfl, ld, dd, re⟩ := a.dict
    have hs := small_le hs
    refine .of gg (.here (tk := s.toks + 1 + 1) (fun Q E hq => call_len_dict ld dd ?_ hq) ?_)
    · rw [re.length]; omega
    · rw [re.length]; exact .int _ _
theorem bok_int {vs : List V} {xs : List Value} {v : V} (hr : Room A) (h2 : 2 ≤ s.heap.objs.size) (hM : ∀ a, M a → ∃ o, s.heap.get? a = some o) (ra : Seens c s.heap M vs xs) (h : b1 (fun v => match v with | .bool b => some (.int (if b then 1 else 0)) | _ => Option.none) vs = some v) : Op c A M (call (builtVal "int") xs) v s := by
  obtain ⟨w, rfl, g0⟩ := inv_b1 h
  obtain ⟨b, rfl, g1⟩ := inv_bool g0
  obtain ⟨x, rfl, a⟩ := ra.one
  rw [a.bool]
  exact .of g1 (.here (tk := s.toks + 1) (fun Q E hq => call_int_bool hq) (.int _ _))
theorem bok_str {vs : List V} {xs : List Value} {v : V} (hr : Room A) (h2 : 2 ≤ s.heap.objs.size) (hM : ∀ a, M a → ∃ o, s.heap.get? a = some o) (ra : Seens c s.heap M vs xs) (h : b1 (fun v => match v with | .int i => if decide (0 ≤ i) && decide (i < 1000000000) then some (.str (Str.ofString (toString i))) else Option.none | _ => Option.none) vs = some v) : Op c A M (call (builtVal "str") xs) v s := by
  obtain ⟨w, rfl, g0⟩ := inv_b1 h
  obtain ⟨i, rfl, g1⟩ := inv_int g0
  obtain ⟨hs, g2⟩ := if1 g1
  simp only [Bool.and_eq_true, decide_eq_true_eq] at hs
  obtain ⟨x, rfl, a⟩ := ra.one
  obtain ⟨t, rfl⟩ := a.int
  refine .of g2 (.here (tk := s.toks + 1) (fun Q E hq => P.str_of_int ?_ hq) (.str _ _))
  by_cases h0 : i.natAbs = 0
  · rw [h0]; decide
  · exact (Nat.log2_lt h0).mpr (Nat.lt_of_lt_of_le (show i.natAbs < 2 ^ 30 by omega) (Nat.pow_le_pow_right (by decide) (by decide)))
theorem bok_sorted {vs : List V} {xs : List Value} {v : V} (hr : Room A) (h2 : 2 ≤ s.heap.objs.size) (hM : ∀ a, M a → ∃ o, s.heap.get? a = some o) (ra : Seens c s.heap M vs xs) (h : b1 (fun v => match v with | .list vs => (intsV vs).bind fun l => if decide (l.length < 64) then some (.list ((sortI l).map .int)) else Option.none | _ => Option.none) vs = some v) : Op c A M (call (builtVal "sorted") xs) v s := by
  obtain ⟨w, rfl, g0⟩ := inv_b1 h
  obtain ⟨vs, rfl, g1⟩ := inv_list g0
  obtain ⟨l, hl, g2⟩ := bs1 g1
  obtain ⟨hs, g3⟩ := if1 g2
  refine .of g3 ?_
  simp only [decide_eq_true_eq] at hs
  obtain ⟨x, rfl, a⟩ := ra.one
  obtain ⟨a1, ys, n, rfl, e1, r1⟩ := a.list
  have hi := reps_ints r1 hl
  intro Q E hQ
  refine sorted_ints (list_obj e1) hi (by rw [hi.length]; exact hs) fun out ns' hi' hp hso => ?_
  have e : ns' = sortI l := List.Perm.eq_of_pairwise (fun a b _ _ h1 h2 => Int.le_antisymm h1 h2) hso (sortI_sorted l) (hp.trans (sortI_perm l).symm)
  subst e
  have k : KeepAll s.heap (sortedAll s.heap ys out) := fun b o e => sortedAll_old e
  obtain ⟨ee, he⟩ := sortedAll_at s.heap ys out
  refine hQ _ _ s.toks k (.list (n := ee) (xs := out.toList) ?_ (by simpa [seqObj] using he) (reps_of_ints hi'))
  intro hm
  obtain ⟨o, e⟩ := hM _ hm
  exact absurd (Heap.lt_size e) (Nat.not_lt.mpr (Nat.le_succ _))
theorem built_ok {g : String} {vs : List V} {xs : List Value} {v : V} (hr : Room A) (h2 : 2 ≤ s.heap.objs.size) (hM : ∀ a, M a → ∃ o, s.heap.get? a = some o) (ra : Seens c s.heap M vs xs) (h : builtV g vs = some v) : Op c A M (call (builtVal g) xs) v s := by
  rcases if2 h with ⟨hg, h'⟩ | ⟨_, h'⟩
  · subst hg; exact bok_isi hr h2 hM ra h'
  replace h := h'
  clear h'
  rcases if2 h with ⟨hg, h'⟩ | ⟨_, h'⟩
  · subst hg; exact bok_list hr h2 hM ra h'
  replace h := h'
  clear h'
  rcases if2 h with ⟨hg, h'⟩ | ⟨_, h'⟩
  · subst hg; exact bok_dict hr h2 hM ra h'
  replace h := h'
  clear h'
  rcases if2 h with ⟨hg, h'⟩ | ⟨_, h'⟩
  · subst hg; exact bok_sum hr h2 hM ra h'
  replace h := h'
  clear h'
  rcases if2 h with ⟨hg, h'⟩ | ⟨_, h'⟩
  · subst hg; exact bok_len hr h2 hM ra h'
  replace h := h'
  clear h'
  rcases if2 h with ⟨hg, h'⟩ | ⟨_, h'⟩
  · subst hg; exact bok_int hr h2 hM ra h'
  replace h := h'
  clear h'
  rcases if2 h with ⟨hg, h'⟩ | ⟨_, h'⟩
  · subst hg; exact bok_str hr h2 hM ra h'
  replace h := h'
  clear h'
  obtain ⟨hg, h'⟩ := if1 h
  subst hg; exact bok_sorted hr h2 hM ra h'
end
end Mine
end
/-! Snd1 -/
section
set_option maxRecDepth 100000
namespace Mine
open PySem PySem.W PyProof.Rows

noncomputable def Fm.addX (f : Fm) (Y : Addr → Prop) : Fm := { f with X := fun a => f.X a ∨ Y a }
noncomputable abbrev Less (own' own : Own) : Prop := ∀ y a, own' y = some a → own y = some a
theorem Less.rfl' (own : Own) : Less own own := fun _ _ e => e
theorem Less.trans {a b d : Own} (x : Less a b) (y : Less b d) : Less a d := fun _ _ e => y _ _ (x _ _ e)

theorem later_less {f : Fm} {T : List Addr} {own own' : Own} {h h' : Heap} (k : KeepAll h h') (l : Less own' own) : Later h (f.M T own) h' (f.M T own') := fun a o hm e => ⟨k a o e, fun q => hm (Fm.M_sub l q)⟩

structure Room2 (A : Around) (n : Nat) : Prop where
  hd : A.handled = none
  dp : A.depth + n + 10 < recursionLimit
  un : A.units + 8 * n + 80 < cLine
theorem Room2.room {A : Around} {n : Nat} (r : Room2 A n) : Room A := ⟨r.hd, by have := r.un; omega⟩
theorem Room2.less {A : Around} {n m : Nat} (r : Room2 A n) (h : m ≤ n) : Room2 A m := ⟨r.hd, by have := r.dp; omega, by have := r.un; omega⟩

section
variable (c : Cx) (f : Fm) (A : Around) (T : List Addr) (own : Own) (loc' : Loc) {s₀ : Shared}

/-- t gives the value v, borne away from all that the frame may change -/
noncomputable def ValOk (t : Sem Value) (v : V) (s : Shared) : Prop :=
  ∀ (Q : Value → Shared → Prop) (E : Value → Shared → Prop), (∀ x h' tk' own', KeepAll s.heap h' → Less own' own → Inv c f T own' loc' h' → Rep c h' (f.M T own') v x → Q x { s with heap := h', toks := tk' }) → wpAny (model c.prog c.w) A t Q E s
/-- t shows the value v -/
noncomputable def PkOk (t : Sem Value) (v : V) (s : Shared) : Prop :=
  ∀ (Q : Value → Shared → Prop) (E : Value → Shared → Prop), (∀ x h' tk' own', KeepAll s.heap h' → Less own' own → Inv c f T own' loc' h' → Seen c h' (f.M T own') v x → Q x { s with heap := h', toks := tk' }) → wpAny (model c.prog c.w) A t Q E s
/-- t gives the value v, owned or not -/
noncomputable def ResOk (t : Sem Value) (v : V) (b : Bool) (s : Shared) : Prop :=
  ∀ (Q : Value → Shared → Prop) (E : Value → Shared → Prop), (∀ x h' tk' own', KeepAll s.heap h' → Less own' own →
    (b = false → Inv c f T own' loc' h' ∧ Rep c h' (f.M T own') v x) →
    (b = true → ∃ a, x = .ref a ∧ Inv c f (a :: T) own' loc' h' ∧ Root c h' (f.M (a :: T) own') a v ∧ (s.heap.get? a = Option.none ∨ f.M T own a)) → Q x { s with heap := h', toks := tk' }) → wpAny (model c.prog c.w) A t Q E s
/-- a list that a comprehension makes is handed to u while the comprehension's names (at Cl) still lie there -/
noncomputable def UseOk (t : (Value → Sem Unit) → Sem Unit) (v : V) (s : Shared) : Prop :=
  ∀ (u : Value → Sem Unit) (Q : Unit → Shared → Prop) (E : Value → Shared → Prop), (∀ x h' tk' own' Cl, KeepAll s.heap h' → Less own' own → s.heap.get? Cl = Option.none → (∃ m, h'.Ns Cl m) → Inv c (f.addX (· = Cl)) T own' loc' h' → Rep c h' ((f.addX (· = Cl)).M T own') v x →
    wpAny (model c.prog c.w) A (u x) (fun _ s₂ => ∃ m, s₂.heap.Ns Cl m ∧ ∀ h'', Heap.SameBut Cl s₂.heap h'' → Q () { s₂ with heap := h'' }) E { s with heap := h', toks := tk' }) → wpAny (model c.prog c.w) A (t u) Q E s
noncomputable def TstOk (t : Sem Bool) (b : Bool) (s : Shared) : Prop :=
  ∀ (Q : Bool → Shared → Prop) (E : Value → Shared → Prop), (∀ h' tk' own', KeepAll s.heap h' → Less own' own → Inv c f T own' loc' h' → Q b { s with heap := h', toks := tk' }) → wpAny (model c.prog c.w) A t Q E s
end

theorem ResOk.val {c : Cx} {f : Fm} {A : Around} {T : List Addr} {own : Own} {loc' : Loc} {t : Sem Value} {v : V} {b : Bool} {s : Shared} (h : ResOk c f A T own loc' t v b s) : ValOk c f A T own loc' t v s := by
  intro Q E hQ
  refine h Q E fun x h' tk' own' k l h0 h1 => ?_
  cases b with
  | false => exact hQ x h' tk' own' k l (h0 rfl).1 (h0 rfl).2
  | true =>
    obtain ⟨a, rfl, I, r, _⟩ := h1 rfl
    exact hQ _ h' tk' own' k l I.drop (r.drop I)
theorem ValOk.pk {c : Cx} {f : Fm} {A : Around} {T : List Addr} {own : Own} {loc' : Loc} {t : Sem Value} {v : V} {s : Shared} (h : ValOk c f A T own loc' t v s) : PkOk c f A T own loc' t v s :=
  fun Q E hQ => h Q E fun x h' tk' own' k l I r => hQ x h' tk' own' k l I r.seen
theorem ValOk.res {c : Cx} {f : Fm} {A : Around} {T : List Addr} {own : Own} {loc' : Loc} {t : Sem Value} {v : V} {s : Shared} (h : ValOk c f A T own loc' t v s) : ResOk c f A T own loc' t v false s :=
  fun Q E hQ => h Q E fun x h' tk' own' k l I r => hQ x h' tk' own' k l (fun _ => ⟨I, r⟩) fun e => nomatch e

/-- an operator behind its operands -/
theorem Op.val {c : Cx} {f : Fm} {A : Around} {T : List Addr} {own : Own} {loc : Loc} {t : Sem Value} {v : V} {s : Shared} (h : Op c A (f.M T own) t v s) (I : Inv c f T own loc s.heap) : ValOk c f A T own loc t v s :=
  fun Q E hQ => h Q E fun x h' tk' k r => hQ x h' tk' own k (Less.rfl' own) (I.keeps k) r

/-- what is known of a def of the program -/
structure FnAt (c : Cx) (fd : FD) (a : Addr) (F : FuncData) : Prop where
  at_ : ∃ o, c.base.get? a = some o ∧ o.data = .func F
  scope : F.scope = fd.scope
  body : F.body = .stmts fd.body
  glob : F.globals = mainGlobals
  built : F.builtins = builtinsNs
  clo : F.closure = []
  code : c.base.CodeRec F.code F.qualname
  bind : ∀ xs : List Value, xs.length = fd.params.length → bindArgs F ⟨xs, []⟩ = pure (fd.params.zip xs)

noncomputable def cmpName : Str := Str.ofString "compare"
noncomputable def clsName : Str := Str.ofString "TupleComp"
noncomputable def builtVal2 : String → Value
  | "isinstance" => .builtin "isinstance"
  | "sum" => .builtin "sum"
  | "len" => .builtin "len"
  | "sorted" => .builtin "sorted"
  | g => .type g

/-- what is known of the program's top -/
structure Top1 (c : Cx) (ft : Str → Option FD) : Prop where
  two : ∃ a o, 2 ≤ a ∧ c.base.get? a = some o
  nolimit : c.base.NoLimit
  names : ∃ mg mb, c.base.Ns mainGlobals mg ∧ c.base.Ns builtinsNs mb ∧ (∀ g fd, ft g = some fd → g ≠ cmpName → ∃ a F, FnAt c fd a F ∧ mg g = some (.ref a)) ∧
    (∀ g ∈ builtNames, ft (Str.ofString g) = Option.none ∧ mg (Str.ofString g) = Option.none ∧ mb (Str.ofString g) = some (builtVal2 g)) ∧ mg clsName = some (.ref c.C)
  cmp : ∀ fd, ft cmpName = some fd → ∃ a F, FnAt c fd a F ∧ ∀ (A : Around) (s : Shared) (x dx : Addr) (hs : Int) (t : Tok) (n : Nat) (u : Value) (pl : Sem Bool) (Q : Value × List Value → Shared → Prop) (E : Value → Shared → Prop),
    KeepAll c.base s.heap → s.heap.get? x = some (instObj c.C dx) → s.heap.get? dx = some (dictOf [⟨hs, .str cslName t, u⟩] n) → Q (.ref a, [.ref x]) s → wpAny (model c.prog c.w) A (getMethod (.ref x) cmpName pl) Q E s
  csl : ∀ (A : Around) (s : Shared) (x dx : Addr) (hs : Int) (t : Tok) (n : Nat) (u : Value) (Q : Value → Shared → Prop) (E : Value → Shared → Prop),
    KeepAll c.base s.heap → s.heap.get? x = some (instObj c.C dx) → s.heap.get? dx = some (dictOf [⟨hs, .str cslName t, u⟩] n) → (handedIn u = true) → Q u { s with toks := s.toks + 1 } → wpAny (model c.prog c.w) A (getAttr (.ref x) cslName true) Q E s
  make : ∀ (A : Around) (s : Shared) (u : Value) (Q : Value → Shared → Prop) (E : Value → Shared → Prop), KeepAll c.base s.heap → A.depth + 2 < recursionLimit →
    (∀ x dx hs t n h' tk', KeepAll s.heap h' → s.heap.get? x = Option.none → s.heap.get? dx = Option.none → h'.get? x = some (instObj c.C dx) → h'.get? dx = some (dictOf [⟨hs, .str cslName t, u⟩] n) → Q (.ref x) { s with heap := h', toks := tk' }) →
    wpAny (model c.prog c.w) A (call (.ref c.C) [u]) Q E s
  keepC : ∀ (h : Heap), KeepAll c.base h → ∃ k, (k = Keeper.frame ∨ k = Keeper.machine ∨ k = Keeper.boundFrame) ∧ Looks (model c.prog c.w) h (keeperOf (.ref c.C)) k

/-- a call of a def of the program -/
noncomputable def CallOk (c : Cx) (R : Ev) (n : Nat) (g : Str) (a : Addr) : Prop :=
  ∀ (vs : List V) (v : V) (b : Bool), R.call g vs = some (v, b) → ∀ (A : Around) (s : Shared) (M : Addr → Prop) (xs : List Value), Room2 A n → KeepAll c.base s.heap → c.base.objs.size ≤ s.heap.objs.size → (∀ a, M a → ∃ o, s.heap.get? a = some o) → Reps c s.heap M vs xs →
    ∀ (Q : Value → Shared → Prop) (E : Value → Shared → Prop), (∀ x h' tk', KeepAll s.heap h' → (b = false → Rep c h' M v x) → (b = true → ∃ a, x = .ref a ∧ s.heap.get? a = Option.none ∧ c.base.get? a = Option.none ∧ Root c h' (fun y => M y ∨ y = a) a v) → Q x { s with heap := h', toks := tk' }) →
      wpAny (model c.prog c.w) A (call (.ref a) xs) Q E s

/-- what a statement may have changed -/
noncomputable def Tr (f : Fm) (T : List Addr) (own : Own) (h : Heap) (T' : List Addr) (own' : Own) (h' : Heap) : Prop := ∀ a o, ¬ f.Mu T own a → h.get? a = some o → h'.get? a = some o ∧ ¬ f.Mu T' own' a
theorem Tr.trans {f : Fm} {T T' T'' : List Addr} {own own' own'' : Own} {h h' h'' : Heap} (x : Tr f T own h T' own' h') (y : Tr f T' own' h' T'' own'' h'') : Tr f T own h T'' own'' h'' := fun a o hm e =>
  let ⟨e', hm'⟩ := x a o hm e
  y a o hm' e'
theorem Fm.Mu_sub {f : Fm} {T : List Addr} {own own' : Own} (hs : Less own' own) {a : Addr} (h : f.Mu T own' a) : f.Mu T own a := by
  rcases h with h | h | ⟨x, h⟩ | h
  · exact .inl h
  · exact .inr (.inl h)
  · exact .inr (.inr (.inl ⟨x, hs x a h⟩))
  · exact .inr (.inr (.inr h))
theorem Tr.of {f : Fm} {T : List Addr} {own own' : Own} {h h' : Heap} (k : KeepAll h h') (l : Less own' own) : Tr f T own h T own' h' := fun a o hm e => ⟨k a o e, fun q => hm (Fm.Mu_sub l q)⟩
theorem Tr.later {f : Fm} {T T' : List Addr} {own own' : Own} {h h' : Heap} (x : Tr f T own h T' own' h') : Later h (f.M T own) h' (f.M T' own') := fun a o hm e =>
  let ⟨e', hm'⟩ := x a o (fun q => hm (.inr q)) e
  ⟨e', fun q => q.elim (fun q => hm (.inl q)) hm'⟩

/-- what a statement (a block) does -/
noncomputable def ExOk (c : Cx) (f : Fm) (A : Around) (own : Own) (t : Sem Flow) (fl : Fl) (loc' : Loc) (s : Shared) : Prop :=
  ∀ (Q : Flow → Shared → Prop) (E : Value → Shared → Prop),
    (fl = .next → ∀ h' tk' own', Tr f [] own s.heap [] own' h' → Inv c f [] own' loc' h' → Q .next { s with heap := h', toks := tk' }) →
    (∀ v, fl = .ret v false → ∀ x h' tk' own', Tr f [] own s.heap [] own' h' → Inv c f [] own' loc' h' → Rep c h' (f.M [] own') v x → Q (.ret x) { s with heap := h', toks := tk' }) →
    (∀ v, fl = .ret v true → ∀ a h' tk' own', Tr f [] own s.heap [a] own' h' → Inv c f [a] own' loc' h' → Root c h' (f.M [a] own') a v → Q (.ret (.ref a)) { s with heap := h', toks := tk' }) →
    wpAny (model c.prog c.w) A t Q E s

/-- the evaluator R tells the truth, n levels deep -/
structure Snd (c : Cx) (ft : Str → Option FD) (R : Ev) (n : Nat) : Prop where
  noStar : ∀ sc e p loc, R.ev sc (.Starred e p) loc = Option.none
  noSlice : ∀ sc a b d p loc, R.ev sc (.Slice a b d p) loc = Option.none
  noSet : ∀ sc a k p loc, R.ev sc (.Set a k p) loc = Option.none
  noSetC : ∀ sc a g k p loc, R.ev sc (.SetComp a g k p) loc = Option.none
  noDictC : ∀ sc a b g k p loc, R.ev sc (.DictComp a b g k p) loc = Option.none
  use : ∀ {f : Fm} {A : Around} {T : List Addr} {own : Own} {loc : Loc} {s : Shared} {elt : Expr} {gens : List Comprehension} {scope : Scope} {pos : Pos} {v : V} {b : Bool} {loc' : Loc}, Env1 c f → Room2 A n → Inv c f T own loc s.heap →
    R.ev f.sc (.ListComp elt gens scope pos) loc = some (v, b, loc') → b = false ∧ UseOk c f A T own loc' (evalThenUse (.ListComp elt gens scope pos) f.env) v s
  ev : ∀ {f : Fm} {A : Around} {T : List Addr} {own : Own} {loc : Loc} {s : Shared} {e : Expr} {v : V} {b : Bool} {loc' : Loc}, Env1 c f → Room2 A n → Inv c f T own loc s.heap → R.ev f.sc e loc = some (v, b, loc') → ResOk c f A T own loc' (eval e f.env) v b s
  tst : ∀ {f : Fm} {A : Around} {T : List Addr} {own : Own} {loc : Loc} {s : Shared} {e : Expr} {b : Bool} {loc' : Loc}, Env1 c f → Room2 A n → Inv c f T own loc s.heap → R.tst f.sc e loc = some (b, loc') → TstOk c f A T own loc' (isTrue e f.env (eval e f.env)) b s
  exec : ∀ {f : Fm} {A : Around} {own : Own} {loc : Loc} {s : Shared} {st : Stmt} {fl : Fl} {loc' : Loc}, Env1 c f → Room2 A n → Inv c f [] own loc s.heap → R.exec f.sc st loc = some (fl, loc') → ExOk c f A own (exec st f.env) fl loc' s
  execs : ∀ {f : Fm} {A : Around} {own : Own} {loc : Loc} {s : Shared} {l : List Stmt} {fl : Fl} {loc' : Loc}, Env1 c f → Room2 A n → Inv c f [] own loc s.heap → R.execs f.sc l loc = some (fl, loc') → ExOk c f A own (execs l f.env) fl loc' s
  call : ∀ g fd a F, ft g = some fd → FnAt c fd a F → CallOk c R n g a
  callft : ∀ g vs r, R.call g vs = some r → ∃ fd, ft g = some fd

/-! names -/
theorem isVar_cases {f : Fm} {x : Str} (h : isVar (f.sc.names.lookup x) = true) : kindAt f.sc x = some .local ∨ kindAt f.sc x = some .cell ∨ kindAt f.sc x = some .free := by
  unfold kindAt
  unfold isVar at h
  split at h
  · rename_i e; exact .inl e
  · rename_i e; exact .inr (.inl e)
  · rename_i e; exact .inr (.inr e)
  · cases h

/-- a name's value is loaded -/
theorem load_ok {c : Cx} {f : Fm} {A : Around} {T : List Addr} {own : Own} {loc : Loc} {s : Shared} {x : Str} {pos : Pos} {v : V} {b : Bool} (e1 : Env1 c f) (I : Inv c f T own loc s.heap) (hg : getL loc x = some (v, b))
    (hv : kindAt f.sc x = some .local ∨ kindAt f.sc x = some .cell ∨ kindAt f.sc x = some .free) {Q : Value → Shared → Prop} {E : Value → Shared → Prop}
    (hQ : ∀ xv, (b = false → Rep c s.heap (f.M T own) v xv) → (b = true → kindAt f.sc x = some .local ∧ ∃ a, xv = .ref a ∧ own x = some a ∧ Root c s.heap (f.M T own) a v) → Q xv s) :
    wpAny (model c.prog c.w) A (eval (.Name x pos) f.env) Q E s := by
  refine wpAny_Name ?_ (e1.dbg x (by rcases hv with h | h | h <;> rw [h] <;> rfl))
  rcases hv with hk | hk
  · obtain ⟨m, F, hm⟩ := I.fr
    obtain ⟨xv, hx, hb⟩ := hm x v b hg hk
    refine wpAny_loadName_local e1.kind (e1.loc x hk) F.ns hx (hQ xv (fun e => ?_) (fun e => ?_))
    · subst e; simpa [Bears] using hb
    · subst e; exact ⟨hk, by simpa [Bears] using hb⟩
  · obtain ⟨rfl, k, xv, h1, _, h2, h3⟩ := I.cells x v b hg hk
    have hc : f.env.kindOf x = some .cell := hk.elim (e1.cell x) (e1.free x)
    exact wpAny_loadName_cell e1.kind hc h1 h2 (hQ xv (fun _ => h3) fun e => nomatch e)
end Mine
end
/-! Snd2 -/
section
set_option maxRecDepth 100000
namespace Mine
open PySem PySem.W PyProof.Rows

section
variable {c : Cx} {ft : Str → Option FD} {R : Ev} {n : Nat} {f : Fm} {A : Around} {T : List Addr} {own : Own} {loc loc' : Loc} {s : Shared} {e : Expr} {v : V}

theorem val_gen (S : Snd c ft R n) (e1 : Env1 c f) (r2 : Room2 A n) (I : Inv c f T own loc s.heap) (h : (R.ev f.sc e loc).map (fun x => (x.1, x.2.2)) = some (v, loc')) : ValOk c f A T own loc' (eval e f.env) v s := by
  obtain ⟨⟨v', b, l'⟩, h1, h2⟩ := Option.map_eq_some_iff.mp h
  obtain ⟨rfl, rfl⟩ := Prod.mk.inj h2
  exact (S.ev e1 r2 I h1).val
theorem val_ok (S : Snd c ft R n) (e1 : Env1 c f) (r2 : Room2 A n) (I : Inv c f T own loc s.heap) (h : val R f.sc e loc = some (v, loc')) : ValOk c f A T own loc' (eval e f.env) v s := by
  rcases val_view R f.sc e loc with ⟨x, p, rfl⟩ | ⟨q, _⟩
  · rcases if2 h with ⟨hv, h⟩ | ⟨_, h⟩
    · obtain ⟨⟨v', b⟩, hg, h2⟩ := Option.map_eq_some_iff.mp h
      intro Q E hQ
      refine load_ok e1 I hg (isVar_cases hv) fun xv h0 h1 => ?_
      obtain ⟨rfl, rfl⟩ := Prod.mk.inj h2
      cases b with
      | false => exact hQ xv s.heap s.toks own (KeepAll.rfl' _) (Less.rfl' _) I (h0 rfl)
      | true =>
        obtain ⟨hk, a, rfl, ho, hr⟩ := h1 rfl
        have J := I.freeze hg hk
        have l : Later s.heap (f.M T own) s.heap (f.M T (noOwn own x)) := later_less (KeepAll.rfl' _) noOwn_sub
        have hoff : ¬ f.M T (noOwn own x) a := (I.move ho hk).1.temp_off
        exact hQ _ s.heap s.toks (noOwn own x) (KeepAll.rfl' _) noOwn_sub J ((hr.later l fun _ e => e).rep hoff)
    · exact val_gen S e1 r2 I h
  · exact val_gen S e1 r2 I (q ▸ h)

theorem pk_ok (S : Snd c ft R n) (e1 : Env1 c f) (r2 : Room2 A n) (I : Inv c f T own loc s.heap) (h : pk R f.sc e loc = some (v, loc')) : PkOk c f A T own loc' (eval e f.env) v s := by
  rcases val_view R f.sc e loc with ⟨x, p, rfl⟩ | ⟨_, q⟩
  · rcases if2 h with ⟨hv, h⟩ | ⟨_, h⟩
    · obtain ⟨⟨v', b⟩, hg, h2⟩ := Option.map_eq_some_iff.mp h
      obtain ⟨rfl, rfl⟩ := Prod.mk.inj h2
      intro Q E hQ
      refine load_ok e1 I hg (isVar_cases hv) fun xv h0 h1 => ?_
      cases b with
      | false => exact hQ xv s.heap s.toks own (KeepAll.rfl' _) (Less.rfl' _) I (h0 rfl).seen
      | true =>
        obtain ⟨hk, a, rfl, ho, hr⟩ := h1 rfl
        exact hQ _ s.heap s.toks own (KeepAll.rfl' _) (Less.rfl' _) I (.inr ⟨a, rfl, hr⟩)
    · exact (val_ok S e1 r2 I h).pk
  · exact (val_gen S e1 r2 I (q ▸ h)).pk

theorem star_of (S : Snd c ft R n) {sc : Scope} (h : (R.ev sc e loc).isSome = true) : ∀ e' p, e ≠ .Starred e' p := fun e' p q => by
  subst q
  rw [S.noStar] at h; cases h
theorem map_some {α β : Type} {x : Option α} {f : α → β} {r : β} (h : x.map f = some r) : x.isSome = true := by
  cases x with
  | none => exact no h
  | some _ => rfl
theorem val_some {sc : Scope} (h : val R sc e loc = some (v, loc')) : (∃ x p, e = .Name x p) ∨ (R.ev sc e loc).isSome = true :=
  (val_view R sc e loc).imp id fun q => map_some (q.1 ▸ h)
theorem pk_some {sc : Scope} (h : pk R sc e loc = some (v, loc')) : (∃ x p, e = .Name x p) ∨ (R.ev sc e loc).isSome = true :=
  (val_view R sc e loc).imp id fun q => map_some (q.2 ▸ h)
theorem val_star (S : Snd c ft R n) {sc : Scope} (h : val R sc e loc = some (v, loc')) : ∀ e' p, e ≠ .Starred e' p := by
  rcases val_some h with ⟨x, p, rfl⟩ | h
  · exact fun _ _ q => nomatch q
  · exact star_of S h
theorem pk_star (S : Snd c ft R n) {sc : Scope} (h : pk R sc e loc = some (v, loc')) : ∀ e' p, e ≠ .Starred e' p := by
  rcases pk_some h with ⟨x, p, rfl⟩ | h
  · exact fun _ _ q => nomatch q
  · exact star_of S h
theorem pk_notSlice (S : Snd c ft R n) {sc : Scope} (h : pk R sc e loc = some (v, loc')) : notSlice e = true := by
  rcases pk_some h with ⟨x, p, rfl⟩ | h
  · rfl
  · cases e with
    | Slice a b d p => rw [S.noSlice] at h; exact absurd h Bool.false_ne_true
    | _ => rfl
theorem starEach_cons {rest : List Expr} {env : Env} (h : ∀ e' p, e ≠ .Starred e' p) : starEach (e :: rest) env = (false, eval e env) :: starEach rest env := by
  cases e <;> first | rfl | exact absurd rfl (h _ _)

theorem vals_ok (S : Snd c ft R n) (e1 : Env1 c f) (r2 : Room2 A n) {pos : Pos} (es : List Expr) : ∀ {vs : List V} {own : Own} {loc : Loc} {s : Shared}, Inv c f T own loc s.heap → vals R f.sc es loc = some (vs, loc') →
    ∀ (Q : List Value → Shared → Prop) (E : Value → Shared → Prop), (∀ xs h' tk' own', KeepAll s.heap h' → Less own' own → Inv c f T own' loc' h' → Reps c h' (f.M T own') vs xs → xs.length = es.length → Q xs { s with heap := h', toks := tk' }) →
      wpAny (model c.prog c.w) A (spliced (backTo pos (starEach es f.env))) Q E s := by
  induction es with
  | nil =>
    intro vs own loc s I h Q E hQ
    obtain ⟨rfl, rfl⟩ := some2 h
    exact wpAny_items_nil (hQ [] s.heap s.toks own (KeepAll.rfl' _) (Less.rfl' _) I .nil rfl)
  | cons e es ih =>
    intro vs own loc s I h Q E hQ
    obtain ⟨v, l1, h1, h3⟩ := bs2 h
    obtain ⟨us, l2, h2, h3⟩ := bs2 h3
    clear h
    obtain ⟨rfl, rfl⟩ := some2 h3
    refine wpAny_items_cons ?_ (starEach_cons (val_star S h1))
    refine val_ok S e1 r2 I h1 _ E fun x h' tk' own' k l I' r => ?_
    refine ih (s := { s with heap := h', toks := tk' }) I' h2 _ E fun xs h'' tk'' own'' k2 l2 I'' rs hl => ?_
    exact hQ _ h'' tk'' own'' (k.trans k2) (l2.trans l) I'' (.cons (r.later (later_less k2 l2)) rs) (by simp [hl])

theorem pks_ok (S : Snd c ft R n) (e1 : Env1 c f) (r2 : Room2 A n) {pos : Pos} (es : List Expr) : ∀ {vs : List V} {own : Own} {loc : Loc} {s : Shared}, Inv c f T own loc s.heap → pks R f.sc es loc = some (vs, loc') →
    ∀ (Q : List Value → Shared → Prop) (E : Value → Shared → Prop), (∀ xs h' tk' own', KeepAll s.heap h' → Less own' own → Inv c f T own' loc' h' → Seens c h' (f.M T own') vs xs → Q xs { s with heap := h', toks := tk' }) →
      wpAny (model c.prog c.w) A (spliced (backTo pos (starEach es f.env))) Q E s := by
  induction es with
  | nil =>
    intro vs own loc s I h Q E hQ
    obtain ⟨rfl, rfl⟩ := some2 h
    exact wpAny_items_nil (hQ [] s.heap s.toks own (KeepAll.rfl' _) (Less.rfl' _) I .nil)
  | cons e es ih =>
    intro vs own loc s I h Q E hQ
    obtain ⟨v, l1, h1, h3⟩ := bs2 h
    obtain ⟨us, l2, h2, h3⟩ := bs2 h3
    clear h
    obtain ⟨rfl, rfl⟩ := some2 h3
    refine wpAny_items_cons ?_ (starEach_cons (pk_star S h1))
    refine pk_ok S e1 r2 I h1 _ E fun x h' tk' own' k l I' r => ?_
    refine ih (s := { s with heap := h', toks := tk' }) I' h2 _ E fun xs h'' tk'' own'' k2 l2 I'' rs => ?_
    exact hQ _ h'' tk'' own'' (k.trans k2) (l2.trans l) I'' (.cons (r.later (later_less k2 l2) k2) rs)

/-- a made value: a fresh object of its own -/
theorem Inv.push_temp (I : Inv c f T own loc s.heap) {o : Obj} (hf : o.isFreed = false) : Inv c f (s.heap.objs.size :: T) own loc (s.heap.push o) := by
  have k := KeepAll.push s.heap o
  have J := I.keeps k
  have hn : s.heap.get? s.heap.objs.size = Option.none := by
    cases q : s.heap.get? s.heap.objs.size with
    | none => rfl
    | some o => exact absurd (Heap.lt_size q) (Nat.lt_irrefl _)
  have hM : ¬ f.M T own s.heap.objs.size := I.fresh hn
  have fr : Free1 c f (s.heap.push o) s.heap.objs.size := by
    refine ⟨?_, ⟨o, Heap.get?_push_size _ hf⟩, fun e => hM (.inr (.inl e)), fun e => hM (.inr (.inr (.inl e))), fun e => hM (.inl e)⟩
    cases q : c.base.get? s.heap.objs.size with
    | none => rfl
    | some o' => rw [I.keep _ _ q] at hn; cases hn
  have hM' : ∀ b o', (s.heap.get? b = some o') → ¬ f.M T own b → ¬ f.M (s.heap.objs.size :: T) own b := fun b o' e hb q => by
    rcases q with q | q | q | ⟨x, q⟩ | q
    · exact hb (.inl q)
    · exact hb (.inr (.inl q))
    · exact hb (.inr (.inr (.inl q)))
    · exact hb (.inr (.inr (.inr (.inl ⟨x, q⟩))))
    · rcases List.mem_cons.mp q with rfl | q
      · rw [hn] at e; cases e
      · exact hb (.inr (.inr (.inr (.inr q))))
  have l : Later s.heap (f.M T own) (s.heap.push o) (f.M (s.heap.objs.size :: T) own) := fun b o' hb e => ⟨k b o' e, hM' b o' e hb⟩
  obtain ⟨m, F, hm⟩ := I.fr
  obtain ⟨m', F', _⟩ := J.fr
  refine ⟨⟨m, ⟨F.ns.keeps k, F'.keep, F.above⟩, fun x v b hg hk => ?_⟩, fun x v b hg hk => ?_, J.cellAt, fun x a e => ⟨(J.ow x a e).1, fun q => ?_⟩, J.inj, fun a ha => ?_, List.nodup_cons.mpr ⟨fun q => ?_, I.tnd⟩, I.xl, I.ml, J.mcs, J.xs⟩
  · obtain ⟨xv, hx, hb⟩ := hm x v b hg hk
    exact ⟨xv, hx, hb.later l fun _ a e => ⟨e, fun o e' => k a o e'⟩⟩
  · obtain ⟨hb, kk, xv, h1, hx, h2, h3⟩ := I.cells x v b hg hk
    exact ⟨hb, kk, xv, h1, hx, h2.keeps k, h3.later l⟩
  · rcases List.mem_cons.mp q with rfl | q
    · obtain ⟨o', e'⟩ := (I.ow x _ e).1.live
      rw [hn] at e'; cases e'
    · exact (J.ow x a e).2 q
  · rcases List.mem_cons.mp ha with rfl | ha
    · exact fr
    · exact J.tmp a ha
  · obtain ⟨o', e'⟩ := (I.tmp _ q).live
    rw [hn] at e'; cases e'

theorem none_at_end (h : Heap) : h.get? h.objs.size = Option.none := by
  cases q : h.get? h.objs.size with
  | none => rfl
  | some o => exact absurd (Heap.lt_size q) (Nat.lt_irrefl _)
theorem Inv.later_temp (I : Inv c f T own loc s.heap) {o : Obj} : Later s.heap (f.M T own) (s.heap.push o) (f.M (s.heap.objs.size :: T) own) := fun b o' hb e => ⟨KeepAll.push _ _ b o' e, fun q => by
  rcases q with q | q | q | ⟨x, q⟩ | q
  · exact hb (.inl q)
  · exact hb (.inr (.inl q))
  · exact hb (.inr (.inr (.inl q)))
  · exact hb (.inr (.inr (.inr (.inl ⟨x, q⟩))))
  · rcases List.mem_cons.mp q with rfl | q
    · rw [none_at_end] at e; cases e
    · exact hb (.inr (.inr (.inr (.inr q))))⟩

/-! a temporary's object may be changed -/
theorem Inv.touch_temp {a : Addr} {h h' : Heap} (e1 : Env1 c f) (I : Inv c f (a :: T) own loc h) (hs : Heap.SameBut a h h') (hl : ∃ o, h'.get? a = some o) : Inv c f (a :: T) own loc h' ∧ Later h (f.M (a :: T) own) h' (f.M (a :: T) own) := by
  have qa := I.tmp a (.head _)
  have l : Later h (f.M (a :: T) own) h' (f.M (a :: T) own) := fun b o hb e => ⟨hs.extBut b o (fun q => hb (q ▸ .inr (.inr (.inr (.inr (.head _)))))) e, hb⟩
  have lv : ∀ {b : Addr}, (∃ o, h.get? b = some o) → ∃ o, h'.get? b = some o := fun {b} ⟨o, e⟩ => by
    by_cases q : b = a
    · subst q; exact hl
    · exact ⟨o, hs.extBut b o q e⟩
  obtain ⟨m, F, hm⟩ := I.fr
  refine ⟨⟨⟨m, ⟨F.ns.sameBut hs (Ne.symm qa.loc), fun b o e => hs.extBut b o (fun q => by rw [q, qa.base] at e; cases e) (F.keep b o e), F.above⟩, fun x v b hg hk => ?_⟩, fun x v b hg hk => ?_, fun x hx hk => ?_, fun x b e => ⟨⟨(I.ow x b e).1.base, lv (I.ow x b e).1.live, (I.ow x b e).1.loc, (I.ow x b e).1.mc, (I.ow x b e).1.X⟩, (I.ow x b e).2⟩, I.inj,
    fun b hb => ⟨(I.tmp b hb).base, lv (I.tmp b hb).live, (I.tmp b hb).loc, (I.tmp b hb).mc, (I.tmp b hb).X⟩, I.tnd, I.xl, I.ml, fun b hb => ⟨(I.mcs b hb).1, lv (I.mcs b hb).2.1, (I.mcs b hb).2.2⟩, fun b hb => lv (I.xs b hb)⟩, l⟩
  · obtain ⟨xv, hx, hb⟩ := hm x v b hg hk
    refine ⟨xv, hx, hb.later l fun _ b e => ⟨e, fun o e' => hs.extBut b o (fun q => ?_) e'⟩⟩
    exact (I.ow x b e).2 (q ▸ .head _)
  · obtain ⟨hb, kk, xv, h1, hx, h2, h3⟩ := I.cells x v b hg hk
    exact ⟨hb, kk, xv, h1, hx, h2.sameBut hs (fun q => hx.elim (fun hx => qa.mc (q ▸ hx)) fun hx => qa.X (q ▸ e1.fcx _ hx)), h3.later l⟩
  · obtain ⟨kk, v₀, h1, h2, h3⟩ := I.cellAt x hx hk
    exact ⟨kk, v₀, h1, h2, h3.sameBut hs (fun q => qa.mc (q ▸ h2))⟩
end
end Mine
end
/-! Frm -/
section
set_option maxRecDepth 100000
set_option linter.unusedVariables false
namespace Mine
open PySem PySem.W PyProof.Rows

section
variable {c : Cx} {f : Fm} {T : List Addr} {own : Own} {loc : Loc} {h h' : Heap} {Y : Addr → Prop}

theorem Env1.addX (e : Env1 c f) (Y : Addr → Prop) : Env1 c (f.addX Y) := ⟨e.kind, e.glob, e.built, e.loc, e.cell, e.free, e.gl, e.apart, e.sck, e.kinds, fun a ha => .inl (e.fcx a ha), e.dbg⟩

theorem Fm.Mu_addX (f : Fm) (Y : Addr → Prop) : (f.addX Y).Mu T own = f.Mu T own := rfl
theorem Fm.M_addX_iff {f : Fm} {Y : Addr → Prop} {a : Addr} : (f.addX Y).M T own a ↔ f.M T own a ∨ Y a := by
  unfold Fm.M
  rw [Fm.Mu_addX]
  show ((f.X a ∨ Y a) ∨ _) ↔ _
  constructor
  · rintro ((h | h) | h)
    · exact .inl (.inl h)
    · exact .inr h
    · exact .inl (.inr h)
  · rintro ((h | h) | h)
    · exact .inl (.inl h)
    · exact .inr h
    · exact .inl (.inr h)

/-- fresh addresses set aside -/
theorem Later.addX (hY : ∀ a, Y a → h.get? a = Option.none) (k : KeepAll h h') : Later h (f.M T own) h' ((f.addX Y).M T own) := fun a o hm e => ⟨k a o e, fun q => by
  rcases Fm.M_addX_iff.mp q with q | q
  · exact hm q
  · rw [hY a q] at e; cases e⟩
theorem Inv.addX (I : Inv c f T own loc h) (hY : ∀ a, Y a → h.get? a = Option.none) (k : KeepAll h h') (lv : ∀ a, Y a → ∃ o, h'.get? a = some o) : Inv c (f.addX Y) T own loc h' := by
  have J := I.keeps k
  have l := Later.addX (f := f) (T := T) (own := own) hY k
  have off : ∀ a, (∃ o, h.get? a = some o) → ¬ Y a := fun a ⟨o, e⟩ q => by rw [hY a q] at e; cases e
  have fr : ∀ a, Free1 c f h a → Free1 c (f.addX Y) h' a := fun a q => ⟨q.base, let ⟨o, e⟩ := q.live; ⟨o, k _ o e⟩, q.loc, q.mc, fun x => x.elim q.X (off a q.live)⟩
  obtain ⟨m, F, hm⟩ := I.fr
  obtain ⟨m', F', _⟩ := J.fr
  refine ⟨⟨m, ⟨F.ns.keeps k, F'.keep, F.above⟩, fun x v b hg hk => ?_⟩, fun x v b hg hk => ?_, J.cellAt, fun x a e => ⟨fr a (I.ow x a e).1, (I.ow x a e).2⟩, I.inj, fun a ha => fr a (I.tmp a ha), I.tnd, fun q => q.elim I.xl (off _ I.locals_live), I.ml,
    fun a ha => ⟨(I.mcs a ha).1, (J.mcs a ha).2.1, fun q => q.elim (I.mcs a ha).2.2 (off _ (I.mcs a ha).2.1)⟩, fun a ha => ha.elim (J.xs a) (lv a)⟩
  · obtain ⟨xv, hx, hb⟩ := hm x v b hg hk
    exact ⟨xv, hx, hb.later l fun _ a e => ⟨e, fun o e' => k a o e'⟩⟩
  · obtain ⟨hb, kk, xv, h1, hx, h2, h3⟩ := I.cells x v b hg hk
    exact ⟨hb, kk, xv, h1, hx, h2.keeps k, h3.later l⟩

/-- what is set aside may change -/
theorem touch_later (hY : ∀ a, Y a → f.X a) (k : ∀ b o, ¬ Y b → h.get? b = some o → h'.get? b = some o) : Later h (f.M T own) h' (f.M T own) := fun a o hm e => ⟨k a o (fun q => hm (.inl (hY a q))) e, hm⟩
theorem Inv.touch (e1 : Env1 c f) (I : Inv c f T own loc h) (hY : ∀ a, Y a → f.X a) (hfc : ∀ a ∈ f.fc, ¬ Y a) (hb : ∀ a o, c.base.get? a = some o → ¬ Y a) (k : ∀ b o, ¬ Y b → h.get? b = some o → h'.get? b = some o) (lv : ∀ a, Y a → ∃ o, h'.get? a = some o) : Inv c f T own loc h' := by
  have l := touch_later (f := f) (T := T) (own := own) hY k
  have lv' : ∀ {a : Addr}, (∃ o, h.get? a = some o) → ∃ o, h'.get? a = some o := fun {a} ⟨o, e⟩ => by
    by_cases q : Y a
    · exact lv a q
    · exact ⟨o, k a o q e⟩
  have fr : ∀ a, Free1 c f h a → Free1 c f h' a := fun a q => ⟨q.base, lv' q.live, q.loc, q.mc, q.X⟩
  have nY : ∀ a, ¬ f.X a → ¬ Y a := fun a q y => q (hY a y)
  obtain ⟨m, F, hm⟩ := I.fr
  refine ⟨⟨m, ⟨F.ns.at' fun o e => k _ o (nY _ I.xl) e, fun b o e => k b o (hb b o e) (F.keep b o e), F.above⟩, fun x v b hg hk => ?_⟩, fun x v b hg hk => ?_, fun x hx hk => ?_, fun x a e => ⟨fr a (I.ow x a e).1, (I.ow x a e).2⟩, I.inj, fun a ha => fr a (I.tmp a ha), I.tnd, I.xl, I.ml,
    fun a ha => ⟨(I.mcs a ha).1, lv' (I.mcs a ha).2.1, (I.mcs a ha).2.2⟩, fun a ha => lv' (I.xs a ha)⟩
  · obtain ⟨xv, hx, hb⟩ := hm x v b hg hk
    exact ⟨xv, hx, hb.later l fun _ a e => ⟨e, fun o e' => k a o (nY a (I.ow x a e).1.X) e'⟩⟩
  · obtain ⟨hb, kk, xv, h1, hx, ⟨o, h2, h2'⟩, h3⟩ := I.cells x v b hg hk
    refine ⟨hb, kk, xv, h1, hx, ⟨o, k kk o ?_ h2, h2'⟩, h3.later l⟩
    exact hx.elim (fun q => nY kk (I.mcs kk q).2.2) (hfc kk)
  · obtain ⟨kk, v₀, h1, h2, ⟨o, h3, h3'⟩⟩ := I.cellAt x hx hk
    exact ⟨kk, v₀, h1, h2, o, k kk o (nY kk (I.mcs kk h2).2.2) h3, h3'⟩

/-- what was set aside is let go -/
theorem later_subX (k : ∀ b o, ¬ Y b → h.get? b = some o → h'.get? b = some o) : Later h ((f.addX Y).M T own) h' (f.M T own) := fun a o hm e => ⟨k a o (fun q => hm (Fm.M_addX_iff.mpr (.inr q))) e, fun q => hm (Fm.M_addX_iff.mpr (.inl q))⟩
theorem Inv.subX (e1 : Env1 c f) (I : Inv c (f.addX Y) T own loc h) (hd : ∀ a, Y a → ¬ f.X a) (hb : ∀ a o, c.base.get? a = some o → ¬ Y a) (k : ∀ b o, ¬ Y b → h.get? b = some o → h'.get? b = some o) : Inv c f T own loc h' := by
  have l := later_subX (f := f) (T := T) (own := own) k
  have nY : ∀ a, ¬ (f.addX Y).X a → ¬ Y a := fun a q y => q (.inr y)
  have nX : ∀ a, ¬ (f.addX Y).X a → ¬ f.X a := fun a q y => q (.inl y)
  have fr : ∀ a, Free1 c (f.addX Y) h a → Free1 c f h' a := fun a q => ⟨q.base, let ⟨o, e⟩ := q.live; ⟨o, k a o (nY a q.X) e⟩, q.loc, q.mc, nX a q.X⟩
  obtain ⟨m, F, hm⟩ := I.fr
  refine ⟨⟨m, ⟨F.ns.at' fun o e => k _ o (nY _ I.xl) e, fun b o e => k b o (hb b o e) (F.keep b o e), F.above⟩, fun x v b hg hk => ?_⟩, fun x v b hg hk => ?_, fun x hx hk => ?_, fun x a e => ⟨fr a (I.ow x a e).1, (I.ow x a e).2⟩, I.inj, fun a ha => fr a (I.tmp a ha), I.tnd, nX _ I.xl, I.ml,
    fun a ha => ⟨(I.mcs a ha).1, let ⟨o, e⟩ := (I.mcs a ha).2.1; ⟨o, k a o (nY a (I.mcs a ha).2.2) e⟩, nX a (I.mcs a ha).2.2⟩, fun a ha => let ⟨o, e⟩ := I.xs a (.inl ha); ⟨o, k a o (fun y => hd a y ha) e⟩⟩
  · obtain ⟨xv, hx, hb⟩ := hm x v b hg hk
    exact ⟨xv, hx, hb.later l fun _ a e => ⟨e, fun o e' => k a o (nY a (I.ow x a e).1.X) e'⟩⟩
  · obtain ⟨hb, kk, xv, h1, hx, ⟨o, h2, h2'⟩, h3⟩ := I.cells x v b hg hk
    refine ⟨hb, kk, xv, h1, hx, ⟨o, k kk o ?_ h2, h2'⟩, h3.later l⟩
    exact hx.elim (fun q => nY kk (I.mcs kk q).2.2) (fun q y => hd kk y (e1.fcx kk q))
  · obtain ⟨kk, v₀, h1, h2, ⟨o, h3, h3'⟩⟩ := I.cellAt x hx hk
    exact ⟨kk, v₀, h1, h2, o, k kk o (nY kk (I.mcs kk h2).2.2) h3, h3'⟩
end
end Mine
end
/-! Snd3 -/
section
set_option maxRecDepth 100000
set_option linter.unusedVariables false
namespace Mine
open PySem PySem.W PyProof.Rows

theorem fresh_end {h h' : Heap} (k : KeepAll h h') : h.get? h'.objs.size = Option.none := by
  cases q : h.get? h'.objs.size with
  | none => rfl
  | some o => exact absurd (Heap.lt_size (k _ _ q)) (Nat.lt_irrefl _)

section
variable {c : Cx} {ft : Str → Option FD} {R : Ev} {n : Nat} {f : Fm} {A : Around} {T : List Addr} {own : Own} {loc loc' : Loc} {s : Shared} {e : Expr} {v : V}

/-- a value that needs no heap -/
theorem ResOk.imm {t : Sem Value} {x : Value} {tk : Nat} (I : Inv c f T own loc s.heap) (h : ∀ (Q : Value → Shared → Prop) (E : Value → Shared → Prop), Q x { s with toks := tk } → wpAny (model c.prog c.w) A t Q E s) (r : Rep c s.heap (f.M T own) v x) : ResOk c f A T own loc t v false s :=
  fun Q E hQ => h Q E (hQ x s.heap tk own (KeepAll.rfl' _) (Less.rfl' _) (fun _ => ⟨I, r⟩) fun q => nomatch q)

/-- a value after a look -/
theorem PkOk.bind {α : Type} {t : Sem Value} {a : V} {l1 : Loc} {Q : Value → Shared → Prop} {E : Value → Shared → Prop} (h : PkOk c f A T own l1 t a s)
    (k : ∀ x h' tk' own', KeepAll s.heap h' → Less own' own → Inv c f T own' l1 h' → Seen c h' (f.M T own') a x → Q x { s with heap := h', toks := tk' }) : wpAny (model c.prog c.w) A t Q E s := h Q E k

/-- a step behind: what came of it holds of the start -/
theorem ResOk.behind {t : Sem Value} {b : Bool} {own1 : Own} {l1 : Loc} {h1 : Heap} {tk1 : Nat} {Q : Value → Shared → Prop} {E : Value → Shared → Prop} (k : KeepAll s.heap h1) (l : Less own1 own) (hl : ∀ a o, s.heap.get? a = some o → ¬ f.M T own a → ¬ f.M T own1 a)
    (h : ResOk c f A T own1 l1 t v b { s with heap := h1, toks := tk1 })
    (hQ : ∀ x h' tk' own', KeepAll s.heap h' → Less own' own → (b = false → Inv c f T own' l1 h' ∧ Rep c h' (f.M T own') v x) →
      (b = true → ∃ a, x = .ref a ∧ Inv c f (a :: T) own' l1 h' ∧ Root c h' (f.M (a :: T) own') a v ∧ (s.heap.get? a = Option.none ∨ f.M T own a)) → Q x { s with heap := h', toks := tk' }) : wpAny (model c.prog c.w) A t Q E { s with heap := h1, toks := tk1 } :=
  h Q E fun x h' tk' own' k' l' h0 h1' => hQ x h' tk' own' (k.trans k') (l'.trans l) h0 fun e => by
    obtain ⟨a, hx, I, r, q⟩ := h1' e
    refine ⟨a, hx, I, r, q.elim (fun q => .inl ?_) (fun q => .inr (Fm.M_sub l q))⟩
    cases q' : s.heap.get? a with
    | none => rfl
    | some o => rw [show _ = some o from k a o q'] at q; cases q

theorem ev_var {x : Str} {pos : Pos} {b : Bool} (e1 : Env1 c f) (I : Inv c f T own loc s.heap) (hv : kindAt f.sc x = some .local ∨ kindAt f.sc x = some .cell ∨ kindAt f.sc x = some .free)
    (h : (match getL loc x with
      | some (v, true) => some (v, true, setL loc x Option.none)
      | some (v, false) => some (v, false, loc)
      | Option.none => Option.none) = some (v, b, loc')) : ResOk c f A T own loc' (eval (.Name x pos) f.env) v b s := by
  split at h
  · rename_i w hg
    cases h
    intro Q E hQ
    refine load_ok e1 I hg hv fun xv _ h1 => ?_
    obtain ⟨hk, a, rfl, ho, hr⟩ := h1 rfl
    obtain ⟨J, hM⟩ := I.move ho hk
    have l : Later s.heap (f.M T own) s.heap (f.M (a :: T) (noOwn own x)) := fun b o hb e => ⟨e, fun q => hb ((hM b).mp q)⟩
    exact hQ _ s.heap s.toks (noOwn own x) (KeepAll.rfl' _) noOwn_sub (fun q => nomatch q) fun _ => ⟨a, rfl, J, hr.later l fun _ e => e, .inr ((hM a).mp (.inr (.inr (.inr (.inr (.head _))))))⟩
  · rename_i w hg
    cases h
    intro Q E hQ
    refine load_ok e1 I hg hv fun xv h0 _ => ?_
    exact hQ _ s.heap s.toks own (KeepAll.rfl' _) (Less.rfl' _) (fun _ => ⟨I, h0 rfl⟩) fun q => nomatch q
  · cases h

theorem Inv.ns {m : Str → Option Value} {a : Addr} (I : Inv c f T own loc s.heap) (h : c.base.Ns a m) : s.heap.Ns a m := h.keeps I.keep

theorem builtOf_mem {g : Str} {b : String} (h : builtOf g = some b) : b ∈ builtNames ∧ g = Str.ofString b := by
  unfold builtOf at h
  exact ⟨List.mem_of_find?_eq_some h, by simpa using List.find?_some h⟩

/-- a built-in's name is loaded -/
theorem load_built {g : Str} {b : String} {pos : Pos} (e1 : Env1 c f) (tp : Top1 c ft) (I : Inv c f T own loc s.heap) (hk : kindAt f.sc g = some .globalImplicit) (hb : builtOf g = some b) {Q : Value → Shared → Prop} {E : Value → Shared → Prop}
    (h : Q (builtVal2 b) s) : wpAny (model c.prog c.w) A (eval (.Name g pos) f.env) Q E s := by
  obtain ⟨mg, mb, hg, hbn, _, hn, _⟩ := tp.names
  obtain ⟨hm, rfl⟩ := builtOf_mem hb
  obtain ⟨_, h1, h2⟩ := hn b hm
  refine Calls.Name_function_global e1.kind (e1.gl _ hk) ?_ (e1.dbg _ (by rw [hk]; rfl))
  refine Calls.loadGlobal_builtin (by rw [e1.glob]; exact I.ns hg) h1 (by rw [e1.built]; exact I.ns hbn) h2 h

theorem ev_type {x : Str} {pos : Pos} {b : String} (e1 : Env1 c f) (tp : Top1 c ft) (I : Inv c f T own loc s.heap) (hk : kindAt f.sc x = some .globalImplicit) (h : tyOf x = some b) : ResOk c f A T own loc (eval (.Name x pos) f.env) (.ty b) false s := by
  unfold tyOf at h
  rw [Option.filter_eq_some_iff] at h
  obtain ⟨h1, h2⟩ := h
  have e : builtVal2 b = .type b := by
    rw [Bool.or_eq_true, beq_iff_eq, beq_iff_eq] at h2
    rcases h2 with rfl | rfl <;> rfl
  refine .imm (tk := s.toks) I (fun Q E hq => load_built e1 tp I hk h1 ?_) (.ty b)
  rw [e]; exact hq

theorem seen_later {h h' : Heap} {own own' : Own} {a : V} {x : Value} (k : KeepAll h h') (l : Less own' own) (r : Seen c h (f.M T own) a x) : Seen c h' (f.M T own') a x := r.later (later_less k l) k

theorem ev_binop {l r : Expr} {op : Operator} {pos : Pos} {a b : V} {l1 : Loc} (S : Snd c ft R n) (e1 : Env1 c f) (r2 : Room2 A n) (I : Inv c f T own loc s.heap) (h1 : pk R f.sc l loc = some (a, l1)) (h2 : pk R f.sc r l1 = some (b, loc')) (h3 : binV op a b = some v) :
    ResOk c f A T own loc' (eval (.BinOp l op r pos) f.env) v false s := by
  refine ValOk.res fun Q E hQ => wpAny_BinOp ?_
  refine pk_ok S e1 r2 I h1 _ E fun x h' tk' own' k l I' ra => ?_
  refine pk_ok (s := { s with heap := h', toks := tk' }) S e1 r2 I' h2 _ E fun y h'' tk'' own'' k' l' I'' rb => ?_
  refine (bin_ok r2.room (fun _ => I''.m_live) (seen_later k' l' ra) rb h3).val (s := { s with heap := h'', toks := tk'' }) I'' Q E fun z h3 tk3 own3 k3 l3 I3 r3 => ?_
  exact hQ z h3 tk3 own3 ((k.trans k').trans k3) (l3.trans (l'.trans l)) I3 r3

theorem cmp_not_set (S : Snd c ft R n) {op : CmpOp} {sc : Scope} {r : Expr} (h : pk R sc r loc = some (v, loc')) : behindInMarks op r = false := by
  rcases pk_some h with ⟨x, p, rfl⟩ | h
  · rfl
  · unfold behindInMarks
    split
    · rw [S.noSet] at h; cases h
    · rfl

theorem ev_compare {l r : Expr} {op : CmpOp} {pos : Pos} {a b : V} {l1 : Loc} {t : Bool} (S : Snd c ft R n) (e1 : Env1 c f) (r2 : Room2 A (n + 1)) (I : Inv c f T own loc s.heap) (h1 : pk R f.sc l loc = some (a, l1)) (h2 : pk R f.sc r l1 = some (b, loc')) (h3 : cmpV op a b = some t) :
    ResOk c f A T own loc' (eval (.Compare l [op] [r] pos) f.env) (.bool t) false s := by
  refine ValOk.res fun Q E hQ => wpAny_Compare1 ?_ (cmp_not_set S h2)
  have r3 := r2.less (Nat.le_succ n)
  refine pk_ok S e1 r3 I h1 _ E fun x h' tk' own' k l I' ra => ?_
  refine pk_ok (s := { s with heap := h', toks := tk' }) S e1 r3 I' h2 _ E fun y h'' tk'' own'' k' l' I'' rb => ?_
  refine (cmp_ok r2.room (seen_later k' l' ra) rb h3).val (s := { s with heap := h'', toks := tk'' }) I'' Q E fun z h3 tk3 own3 k3 l3 I3 r3 => ?_
  exact hQ z h3 tk3 own3 ((k.trans k').trans k3) (l3.trans (l'.trans l)) I3 r3

theorem ev_neg {x : Expr} {pos : Pos} {i : Int} (S : Snd c ft R n) (e1 : Env1 c f) (r2 : Room2 A n) (I : Inv c f T own loc s.heap) (h1 : pk R f.sc x loc = some (.int i, loc')) :
    ResOk c f A T own loc' (eval (.UnaryOp .USub x pos) f.env) (.int (-i)) false s := by
  refine ValOk.res fun Q E hQ => wpAny_UnaryOp ?_
  refine pk_ok S e1 r2 I h1 _ E fun x h' tk' own' k l I' ra => ?_
  obtain ⟨t, rfl⟩ := ra.int
  exact P.neg_int (hQ _ h' _ own' k l I' (.int _ _))

theorem ev_ifexp {t b o : Expr} {pos : Pos} {tb ob : Bool} {l1 : Loc} (S : Snd c ft R n) (e1 : Env1 c f) (r2 : Room2 A n) (I : Inv c f T own loc s.heap) (h1 : R.tst f.sc t loc = some (tb, l1)) (h2 : (if tb then R.ev f.sc b l1 else R.ev f.sc o l1) = some (v, ob, loc')) :
    ResOk c f A T own loc' (eval (.IfExp t b o pos) f.env) v ob s := by
  intro Q E hQ
  refine wpAny_IfExp (S.tst e1 r2 I h1 _ E fun h' tk' own' k l I' => ?_)
  have hl : ∀ a o, s.heap.get? a = some o → ¬ f.M T own a → ¬ f.M T own' a := fun a o e q => fun x => q (Fm.M_sub l x)
  cases tb with
  | true => exact ResOk.behind k l hl (S.ev (s := { s with heap := h', toks := tk' }) e1 r2 I' h2) hQ
  | false => exact ResOk.behind k l hl (S.ev (s := { s with heap := h', toks := tk' }) e1 r2 I' h2) hQ

theorem ev_list {elts : List Expr} {pos : Pos} {vs : List V} (S : Snd c ft R n) (e1 : Env1 c f) (r2 : Room2 A n) (I : Inv c f T own loc s.heap) (h1 : vals R f.sc elts loc = some (vs, loc')) (hs : small vs.length = true) :
    ResOk c f A T own loc' (eval (.List elts pos) f.env) (.list vs) true s := by
  intro Q E hQ
  refine wpAny_List (vals_ok S e1 r2 elts I h1 _ E fun xs h' tk' own' k l I' rs _ => ?_)
  have hsz := small_le hs
  refine ⟨by rw [rs.length, sizeLine_eq]; omega, ?_⟩
  refine hQ _ _ tk' own' (k.trans (KeepAll.push _ _)) l (fun q => nomatch q) fun _ => ⟨_, rfl, Inv.push_temp (s := { s with heap := h', toks := tk' }) I' rfl, ?_, .inl (fresh_end k)⟩
  exact .list (n := 0) (Heap.get?_push_size _ rfl) (rs.later (Inv.later_temp (s := { s with heap := h', toks := tk' }) I'))

theorem ev_tuple {elts : List Expr} {pos : Pos} {vs : List V} {m : Nat} (S : Snd c ft R n) (e1 : Env1 c f) (r2 : Room2 A n) (I : Inv c f T own loc s.heap) (h1 : vals R f.sc elts loc = some (vs, loc')) (hs : small vs.length = true) :
    ResOk c f A T own loc' (eval (.Tuple elts m pos) f.env) (.tup vs) false s := by
  refine ValOk.res fun Q E hQ => ?_
  refine wpAny_Tuple (vals_ok S e1 r2 elts I h1 _ E fun xs h' tk' own' k l I' rs _ => ?_)
  have hsz := small_le hs
  refine ⟨by rw [rs.length, sizeLine_eq]; omega, ?_⟩
  have k2 := KeepAll.push h' { cls := .type "tuple", data := .seq xs.toArray }
  refine hQ _ _ tk' own' (k.trans k2) l (I'.keeps k2) (.tup (n := 0) (I'.fresh (none_at_end _)) (Heap.get?_push_size _ rfl) (rs.later (k2.later _)))
end
end Mine
end
/-! Snd4 -/
section
set_option maxRecDepth 100000
set_option linter.unusedVariables false
namespace Mine
open PySem PySem.W PyProof.Rows

/-- the trees of a display of pairs -/
noncomputable def pairTrees (env : Env) (pos : Pos) : List (Option Expr) → List Expr → List (Sem Value × Sem Value)
  | some k :: kr, e :: r => (eval k env, (do let x ← eval e env; standAt pos; pure x)) :: pairTrees env pos kr r
  | _, _ => []

section
variable {c : Cx} {ft : Str → Option FD} {R : Ev} {n : Nat} {f : Fm} {A : Around} {T : List Addr} {own : Own} {loc loc' : Loc} {s : Shared} {e : Expr} {v : V}

theorem pairs_shape {env : Env} {pos : Pos} {sc : Scope} (keys : List (Option Expr)) : ∀ {vs : List Expr} {loc : Loc} {r : List (Int × V) × Loc}, pairs R sc keys vs loc = some r →
    (evalEachOpt keys env).zip ((evalEach vs env).map fun v => do let x ← v; standAt pos; pure x) = (pairTrees env pos keys vs).map (fun p => (some p.1, p.2)) ∧ (pairTrees env pos keys vs).length = r.1.length ∧ r.1.length = keys.length := by
  induction keys with
  | nil =>
    intro vs loc r h
    cases vs with
    | nil => obtain rfl := some1 h; exact ⟨rfl, rfl, rfl⟩
    | cons _ _ => exact no h
  | cons k kr ih =>
    intro vs loc r h
    obtain ⟨k', e, vr, i, l1, v, l2, us, l3, rfl, rfl, h1, h2, h3, rfl⟩ := inv_pairs h
    obtain ⟨i1, i2, i3⟩ := ih h3
    refine ⟨?_, congrArg (· + 1) i2, congrArg (· + 1) i3⟩
    show (some (eval k' env), _) :: ((evalEachOpt kr env).zip ((evalEach vr env).map _)) = _
    rw [i1]
    rfl

theorem pairs_ok (S : Snd c ft R n) (e1 : Env1 c f) (r2 : Room2 A n) {pos : Pos} (keys : List (Option Expr)) : ∀ {vs : List Expr} {es : List (Int × V)} {own : Own} {loc : Loc} {s : Shared}, Inv c f T own loc s.heap → pairs R f.sc keys vs loc = some (es, loc') →
    ∀ (Q : List (Value × Value) → Shared → Prop) (E : Value → Shared → Prop), (∀ xs kvs h' tk' own', KeepAll s.heap h' → Less own' own → Inv c f T own' loc' h' → Carries (intKind c.prog c.w) xs kvs → RepE c h' (f.M T own') es kvs → Q xs { s with heap := h', toks := tk' }) →
      wpAny (model c.prog c.w) A (evalPairs (pairTrees f.env pos keys vs)) Q E s := by
  induction keys with
  | nil =>
    intro vs es own loc s I h Q E hQ
    cases vs with
    | nil =>
      obtain ⟨rfl, rfl⟩ := some2 h
      exact evalPairs_nil (hQ [] [] s.heap s.toks own (KeepAll.rfl' _) (Less.rfl' _) I trivial .nil)
    | cons e r => exact no h
  | cons k keys ih =>
    intro vs es own loc s I h Q E hQ
    obtain ⟨k', e, vr, i, l1, v, l2, us, l3, rfl, rfl, h1, h2, h3, h4⟩ := inv_pairs h
    clear h
    obtain ⟨rfl, rfl⟩ := Prod.mk.inj h4
    refine evalPairs_cons ?_
    refine val_ok S e1 r2 I h1 _ E fun x h' tk' own' k l I' r => ?_
    obtain ⟨t, rfl⟩ := r.seen.int
    refine wpAny_bind ?_
    refine val_ok (s := { s with heap := h', toks := tk' }) S e1 r2 I' h2 _ E fun y h'' tk'' own'' k2 l2 I'' r2 => ?_
    refine wpAny_bind (wpAny_standAt (wpAny_pure ?_))
    refine ih (s := { s with heap := h'', toks := tk'' }) I'' h3 _ E fun xs kvs h3 tk3 own3 k3 l3 I3 hc rs => ?_
    refine hQ _ ((i, y) :: kvs) h3 tk3 own3 ((k.trans k2).trans k3) (l3.trans (l2.trans l)) I3 ⟨by simp [intKind, Value.isInt], rfl, hc⟩ (.cons (r2.later (later_less k3 l3)) rs)

theorem storeE_keys : ∀ (es : List (Int × V)) (k : Int) (v : V), (storeE es k v).map (·.1) = if k ∈ es.map (·.1) then es.map (·.1) else es.map (·.1) ++ [k]
  | [], k, v => by simp [storeE]
  | (k', w) :: r, k, v => by
    unfold storeE
    by_cases h : k' = k
    · subst h; simp
    · rw [if_neg h, List.map_cons, storeE_keys r k v]
      have h' : ¬ k = k' := fun q => h q.symm
      by_cases q : k ∈ r.map (·.1)
      · simp [q]
      · simp [q, h']
theorem storeE_nodup {es : List (Int × V)} {k : Int} {v : V} (h : (es.map (·.1)).Nodup) : ((storeE es k v).map (·.1)).Nodup := by
  rw [storeE_keys]
  split
  · exact h
  · rename_i q
    rw [List.nodup_append]
    exact ⟨h, by simp, fun a ha b hb => by simp at hb; subst hb; exact fun e => q (e ▸ ha)⟩

theorem merged_ok {h : Heap} {M : Addr → Prop} (es : List (Int × V)) : ∀ {kvs : List (Int × Value)}, RepE c h M es kvs → ∀ {acc : List (Int × V)} {acc' : List (Int × Value)}, RepE c h M acc acc' → (acc.map (·.1)).Nodup →
    RepE c h M (es.foldl (fun d e => storeE d e.1 e.2) acc) (merged acc' kvs) := by
  induction es with
  | nil =>
    intro kvs r acc acc' ra hn
    cases r
    simpa [merged] using ra
  | cons p es ih =>
    intro kvs r acc acc' ra hn
    obtain ⟨k, v⟩ := p
    cases r with
    | cons a r =>
      have := ih r (ra.store a (by rw [ra.keys]; exact hn) k) (storeE_nodup hn)
      simpa [merged] using this

theorem big_addr {h : Heap} (tp : Top1 c ft) (k : KeepAll c.base h) {a : Addr} (ha : h.get? a = Option.none) (hle : h.objs.size ≤ a) : (a == sysModules) = false := by
  obtain ⟨b, o, hb, e⟩ := tp.two
  have hlt := Heap.lt_size (k b o e)
  rw [beq_eq_false_iff_ne]
  intro q
  rw [q] at hle
  exact absurd (Nat.le_trans hb (Nat.le_trans (Nat.le_of_lt hlt) hle)) (by decide)

theorem ev_dict {keys : List (Option Expr)} {vs : List Expr} {pos : Pos} {es : List (Int × V)} (S : Snd c ft R n) (tp : Top1 c ft) (e1 : Env1 c f) (r2 : Room2 A n) (I : Inv c f T own loc s.heap) (h1 : pairs R f.sc keys vs loc = some (es, loc')) (hs : es.length ≤ 15) :
    ResOk c f A T own loc' (eval (.Dict keys vs pos) f.env) (.dict (es.foldl (fun d e => storeE d e.1 e.2) [])) true s := by
  intro Q E hQ
  have J := Inv.push_temp (o := { cls := .type "dict", data := .dict #[] }) I rfl
  have hd : (s.heap.push { cls := .type "dict", data := .dict #[] }).DictOf (intKind c.prog c.w) s.heap.objs.size [] := Heap.DictOf.new _
  have hbig : (s.heap.objs.size == sysModules) = false := big_addr tp I.keep (none_at_end _) (Nat.le_refl _)
  obtain ⟨g1, g2, g3⟩ := pairs_shape (env := f.env) (pos := pos) _ h1
  cases keys with
  | nil =>
    cases vs with
    | nil =>
      obtain ⟨rfl, rfl⟩ := some2 h1
      refine wpAny_Dict_empty (hQ _ _ s.toks own (KeepAll.push _ _) (Less.rfl' _) (fun q => nomatch q) fun _ => ⟨_, rfl, J, .dict hbig hd .nil, .inl (none_at_end _)⟩)
    | cons e r => exact no h1
  | cons k keys =>
    refine wpAny_Dict_pairs (knd := intKind c.prog c.w) g1 (fun q => by rw [q] at g2; simp at g2 g3; omega) (by rw [g2]; exact hs) ?_
    refine pairs_ok (T := s.heap.objs.size :: T) (s := { s with heap := s.heap.push { cls := .type "dict", data := .dict #[] } }) S e1 r2 (k :: keys) J h1 _ E fun xs kvs h' tk' own' kk l I' hc rs => ?_
    obtain ⟨o, ees, ep, q1, q2⟩ := hd
    refine ⟨kvs, hc, ⟨o, ees, ep, kk _ _ q1, q2⟩, fun h'' hd'' hsb => ?_⟩
    obtain ⟨I'', l''⟩ := I'.touch_temp e1 hsb (by obtain ⟨o, _, _, q, _⟩ := hd''; exact ⟨o, q⟩)
    refine hQ _ h'' _ own' ?_ l (fun q => nomatch q) fun _ => ⟨_, rfl, I'', .dict hbig hd'' (merged_ok _ (rs.later l'') .nil (by simp)), .inl (none_at_end _)⟩
    exact fun b o e => hsb.extBut b o (Nat.ne_of_lt (Heap.lt_size e)) (kk b o (Heap.get?_push_of_some _ e))

theorem ev_item {x i : Expr} {pos : Pos} {a b : V} {l1 : Loc} (S : Snd c ft R n) (e1 : Env1 c f) (r2 : Room2 A n) (I : Inv c f T own loc s.heap) (h1 : pk R f.sc x loc = some (a, l1)) (h2 : pk R f.sc i l1 = some (b, loc')) (h3 : itemV a b = some v) :
    ResOk c f A T own loc' (eval (.Subscript x i pos) f.env) v false s := by
  refine ValOk.res fun Q E hQ => Subscript_ ?_
  refine pk_ok S e1 r2 I h1 _ E fun x h' tk' own' k l I' ra => ?_
  refine pk_ok (s := { s with heap := h', toks := tk' }) S e1 r2 I' h2 _ E fun y h'' tk'' own'' k' l' I'' rb => ?_
  refine (item_ok (seen_later k' l' ra) rb (pk_notSlice S h2) h3).val (s := { s with heap := h'', toks := tk'' }) I'' Q E fun z h3 tk3 own3 k3 l3 I3 r3 => ?_
  exact hQ z h3 tk3 own3 ((k.trans k').trans k3) (l3.trans (l'.trans l)) I3 r3

theorem str_drop1 {x : Str} {t : Tok} {tk : Tok} (h : 1 ≤ x.cps.size) : sliceMade x t (some (1, tk)) Option.none Option.none = .str ⟨(x.cps.toList.drop 1).toArray⟩ := by
  have e : slicePicked x (some (1, tk)) Option.none Option.none = (List.range (x.cps.size - 1)).map (1 + ·) := by
    unfold slicePicked Builtin.Str.strSliceIndices
    simp only [Option.map_some, Option.map_none, Option.getD_none, Str.length]
    have h1 : ¬ ((1 : Int) < 0) := by decide
    simp only [h1, if_false, show (1 : Int) > 0 by decide, if_true]
    have e2 : max (0 : Int) (min 1 (x.cps.size : Int)) = ((1 : Nat) : Int) := by omega
    rw [e2]
    exact sliceRange_one 1 x.cps.size
  unfold sliceMade
  rw [e]
  have hl : (((List.range (x.cps.size - 1)).map (1 + ·)).length == x.length) = false := by
    rw [beq_eq_false_iff_ne, List.length_map, List.length_range]
    show x.cps.size - 1 ≠ x.cps.size
    omega
  simp only [Option.map_none, Option.getD_none, hl, Bool.and_false, Bool.false_eq_true, if_false]
  rw [pick_run, List.take_of_length_le (by simp)]

theorem slice_eq {lo hi : Option Expr} {p : Pos} (o i : Value) : subscripted (.Slice lo hi Option.none p) false o i = operate [i, o] (getItem o i) := rfl

theorem part_ok {x : Option Expr} {l : Option V} (S : Snd c ft R n) (e1 : Env1 c f) (r2 : Room2 A n) (I : Inv c f T own loc s.heap)
    (h : part R f.sc x loc = some (l, loc')) (Q : Value → Shared → Prop) (E : Value → Shared → Prop)
    (hQ : ∀ y h' tk' own', KeepAll s.heap h' → Less own' own → Inv c f T own' loc' h' → (l = Option.none ∧ y = .none ∨ ∃ w, l = some w ∧ Seen c h' (f.M T own') w y) → Q y { s with heap := h', toks := tk' }) : wpAny (model c.prog c.w) A (evalPart x f.env) Q E s := by
  cases x with
  | none =>
    obtain ⟨rfl, rfl⟩ := some2 h
    exact wpAny_pure (hQ _ s.heap s.toks own (KeepAll.rfl' _) (Less.rfl' _) I (.inl ⟨rfl, rfl⟩))
  | some x =>
    obtain ⟨⟨w, l'⟩, h1, h2⟩ := Option.map_eq_some_iff.mp h
    obtain ⟨rfl, rfl⟩ := Prod.mk.inj h2
    exact pk_ok S e1 r2 I h1 Q E fun y h' tk' own' k l I' r => hQ y h' tk' own' k l I' (.inr ⟨w, rfl, r⟩)

theorem cut_list {x : Expr} {lo hi : Option Expr} {p : Pos} {a1 : Addr} {xs : List Value} {vs : List V} {j : Int} {u : Tok} {tk3 : Nat} {own3 : Own} {h9 : Heap} {Q : Value → Shared → Prop} {E : Value → Shared → Prop} (I3 : Inv c f T own3 loc' h9) (e3 : h9.IsList a1 xs.toArray) (r3 : Reps c h9 (f.M T own3) vs xs)
    (hz : (0 ≤ j ∧ j < 1000000) ∧ small vs.length = true) (hQ : ∀ y h' tk', KeepAll h9 h' → Inv c f T own3 loc' h' → Rep c h' (f.M T own3) (.list (vs.take j.toNat)) y → Q y { s with heap := h', toks := tk' }) :
    wpAny (model c.prog c.w) A (subscriptTail x (.Slice lo hi Option.none p) (.ref a1) (.ref h9.objs.size)) Q E { s with heap := h9.push { cls := .type "slice", data := .fields #[.none, .int j u, .none] }, toks := tk3 } := by
  have k4 := KeepAll.push h9 { cls := .type "slice", data := .fields #[.none, .int j u, .none] }
  have hl : Heap.IsList (h9.push { cls := .type "slice", data := .fields #[.none, .int j u, .none] }) a1 xs.toArray := by obtain ⟨o, e, q⟩ := e3; exact ⟨o, k4 _ _ e, q⟩
  have hsz := small_le hz.2
  refine tail_any (T := "list") hl.typeIs slot_list_getitem.lookup ?_ (slice_eq _ _)
  refine wpAny_getItem_list_slice hl (Heap.IsSliceOf.new ..) .none (.int j u) .none (by simp) ?_ (by rw [List.size_toArray, r3.length, sizeLine_eq]; omega)
  have I4 := I3.keeps k4
  have r4 := r3.later (k4.later _)
  generalize h9.push { cls := .type "slice", data := .fields #[.none, .int j u, .none] } = hp at k4 I4 r4
  have e5 : j = ((j.toNat : Nat) : Int) := by omega
  rw [e5, slicePick_upto']
  have k5 := KeepAll.push hp { cls := .type "list", data := .seq (((List.toArray xs).toList.take j.toNat).toArray) }
  exact hQ _ _ _ (k4.trans k5) (I4.keeps k5) (.list (n := 0) (I4.fresh (none_at_end _)) (Heap.get?_push_size _ rfl) ((r4.take j.toNat).later (k5.later _)))
theorem cut_str {x : Expr} {lo hi : Option Expr} {p : Pos} {st : Str} {t u : Tok} {tk3 : Nat} {own3 : Own} {h9 : Heap} {Q : Value → Shared → Prop} {E : Value → Shared → Prop} (I3 : Inv c f T own3 loc' h9)
    (hz : 1 ≤ st.cps.size ∧ small st.cps.size = true) (hQ : ∀ y h' tk', KeepAll h9 h' → Inv c f T own3 loc' h' → Rep c h' (f.M T own3) (.str ⟨(st.cps.toList.drop 1).toArray⟩) y → Q y { s with heap := h', toks := tk' }) :
    wpAny (model c.prog c.w) A (subscriptTail x (.Slice lo hi Option.none p) (.str st t) (.ref h9.objs.size)) Q E { s with heap := h9.push { cls := .type "slice", data := .fields #[.int 1 u, .none, .none] }, toks := tk3 } := by
  have k4 := KeepAll.push h9 { cls := .type "slice", data := .fields #[.int 1 u, .none, .none] }
  refine tail_any (T := "str") (typeIs_str _ st t) F.slot_str_getitem.lookup ?_ (slice_eq _ _)
  refine wpAny_getItem_str_slice (l := some (1, u)) (u := Option.none) (st := Option.none) ⟨_, Heap.get?_push_size _ rfl, rfl, rfl⟩ rfl ?_
  have hsz := small_le hz.2
  rw [str_drop1 hz.1]
  refine ⟨?_, ?_⟩
  · show (st.cps.toList.drop 1).toArray.size ≤ sizeLine
    rw [List.size_toArray, List.length_drop, Array.length_toList, sizeLine_eq]; omega
  exact hQ _ _ (tk3 + 1) k4 (I3.keeps k4) (.str _ tk3)
theorem ev_slice {x : Expr} {lo hi : Option Expr} {p pos : Pos} {a : V} {l1 l2 : Loc} {l h : Option V} (S : Snd c ft R n) (e1 : Env1 c f) (r2 : Room2 A n) (I : Inv c f T own loc s.heap) (h1 : pk R f.sc x loc = some (a, l1))
    (h2 : part R f.sc lo l1 = some (l, l2))
    (h3 : part R f.sc hi l2 = some (h, loc')) (h4 : cutV a l h = some v) :
    ResOk c f A T own loc' (eval (.Subscript x (.Slice lo hi Option.none p) pos) f.env) v false s := by
  refine ValOk.res fun Q E hQ => Subscript_ ?_
  refine pk_ok S e1 r2 I h1 _ E fun x h' tk' own' k l I' ra => ?_
  refine wpAny_Slice ?_
  refine part_ok (s := { s with heap := h', toks := tk' }) S e1 r2 I' h2 _ E fun y h'' tk'' own'' k' l' I'' rb => ?_
  refine part_ok (s := { s with heap := h'', toks := tk'' }) S e1 r2 I'' h3 _ E fun z h9 tk3 own3 k3 l3 I3 rc => ?_
  rw [evalPart_none]
  refine wpAny_pure ?_
  clear h1 h2 h3
  have hQ' : ∀ y h' tk', KeepAll h9 h' → Inv c f T own3 loc' h' → Rep c h' (f.M T own3) v y → Q y { s with heap := h', toks := tk' } := fun y h' tk' k4 I4 r => hQ y h' tk' own3 (((k.trans k').trans k3).trans k4) (l3.trans (l'.trans l)) I4 r
  have ra3 := seen_later k3 l3 (seen_later k' l' ra)
  clear ra hQ
  have none_of : ∀ {w : Option V} {y : Value} {g : Heap} {own : Own}, w = Option.none → (w = Option.none ∧ y = .none ∨ ∃ u, w = some u ∧ Seen c g (f.M T own) u y) → y = .none := fun e q => by
    rcases q with ⟨_, q⟩ | ⟨_, q, _⟩
    · exact q
    · rw [e] at q; cases q
  have int_of : ∀ {w : Option V} {y : Value} {g : Heap} {own : Own} {i : Int}, w = some (.int i) → (w = Option.none ∧ y = .none ∨ ∃ u, w = some u ∧ Seen c g (f.M T own) u y) → ∃ u, y = .int i u := fun e q => by
    rcases q with ⟨q, _⟩ | ⟨w, q, r⟩
    · rw [e] at q; cases q
    · rw [e] at q; cases q; exact r.int
  cases a with
  | str st =>
    obtain ⟨i, hl, hh, h4⟩ := inv_lo h4
    obtain ⟨hi1, h5⟩ := if1 h4
    subst hi1
    obtain ⟨hz, h6⟩ := if1 h5
    obtain ⟨t, rfl⟩ := ra3.str
    obtain ⟨u, rfl⟩ := int_of hl rb
    obtain rfl := none_of hh rc
    rw [Bool.and_eq_true, decide_eq_true_eq] at hz
    exact cut_str I3 hz fun y h' tk' k I r => hQ' y h' tk' k I (some1 h6 ▸ r)
  | list vs =>
    obtain ⟨i, hl, hh, h4⟩ := inv_hi h4
    obtain ⟨hz, h4⟩ := if1 h4
    simp only [Bool.and_eq_true, decide_eq_true_eq] at hz
    obtain ⟨a1, xs, m, rfl, e3, r3⟩ := ra3.list
    obtain rfl := none_of hl rb
    obtain ⟨u, rfl⟩ := int_of hh rc
    exact cut_list I3 (list_obj e3) r3 hz fun y h' tk' k I r => hQ' y h' tk' k I (some1 h4 ▸ r)
  | src vs =>
    obtain ⟨i, hl, hh, h4⟩ := inv_hi h4
    obtain ⟨hz, h4⟩ := if1 h4
    simp only [Bool.and_eq_true, decide_eq_true_eq] at hz
    obtain ⟨a1, xs, rfl, e3, r3⟩ := ra3.src
    obtain rfl := none_of hl rb
    obtain ⟨u, rfl⟩ := int_of hh rc
    exact cut_list I3 e3 r3 hz fun y h' tk' k I r => hQ' y h' tk' k I (some1 h4 ▸ r)
  | _ => exact no h4

theorem handed_rep {h : Heap} {M : Addr → Prop} {v : V} {x : Value} (r : Rep c h M v x) : handedIn x = true := by cases r <;> rfl

theorem ev_attr {ox : Str} {xp pos : Pos} (S : Snd c ft R n) (tp : Top1 c ft) (e1 : Env1 c f) (r2 : Room2 A n) (I : Inv c f T own loc s.heap) (h1 : pk R f.sc (.Name ox xp) loc = some (.inst v, loc')) :
    ResOk c f A T own loc' (eval (.Attribute (.Name ox xp) cslName pos) f.env) v false s := by
  refine ValOk.res fun Q E hQ => Attribute_any_ ?_ rfl
  refine pk_ok S e1 r2 I h1 _ E fun x h' tk' own' k l I' ra => ?_
  obtain ⟨a, dx, hs, t, m, y, rfl, e3, e4, r⟩ := ra.inst.inv
  · exact tp.csl A _ _ _ _ _ _ _ Q E I'.keep e3 e4 (handed_rep r) (hQ _ h' _ own' k l I' r)
end
end Mine
end
/-! Snd5 -/
section
set_option maxRecDepth 100000
set_option linter.unusedVariables false
namespace Mine
open PySem PySem.W PyProof.Rows

section
variable {c : Cx} {ft : Str → Option FD} {R : Ev} {n : Nat} {f : Fm} {A : Around} {T : List Addr} {own : Own} {loc loc' : Loc} {s : Shared} {e : Expr} {v : V}

theorem vals_plain (S : Snd c ft R n) {env : Env} {pos : Pos} {sc : Scope} : ∀ {es : List Expr} {loc : Loc} {r : List V × Loc}, vals R sc es loc = some r → (backTo pos (starEach es env)).any (·.1) = false ∧ (backTo pos (starEach es env)).all (fun x => !x.1) = true
  | [], _, _, _ => ⟨rfl, rfl⟩
  | e :: es, loc, r, h => by
    obtain ⟨v, l1, h1, h3⟩ := bs2 h
    obtain ⟨us, l2, h2, _⟩ := bs2 h3
    obtain ⟨i1, i2⟩ := vals_plain S (env := env) (pos := pos) h2
    rw [starEach_cons (val_star S h1)]
    exact ⟨by show (false || (backTo pos (starEach es env)).any (·.1)) = false; rw [i1]; rfl, by show (true && (backTo pos (starEach es env)).all (fun x => !x.1)) = true; rw [i2]; rfl⟩
theorem pks_plain (S : Snd c ft R n) {env : Env} {pos : Pos} {sc : Scope} : ∀ {es : List Expr} {loc : Loc} {r : List V × Loc}, pks R sc es loc = some r → (backTo pos (starEach es env)).any (·.1) = false
  | [], _, _, _ => rfl
  | e :: es, loc, r, h => by
    obtain ⟨v, l1, h1, h3⟩ := bs2 h
    obtain ⟨us, l2, h2, _⟩ := bs2 h3
    have i1 := pks_plain S (env := env) (pos := pos) h2
    rw [starEach_cons (pk_star S h1)]
    show (false || (backTo pos (starEach es env)).any (·.1)) = false
    rw [i1]; rfl
theorem starEach_ne {env : Env} {pos : Pos} (e : Expr) (r : List Expr) : ¬ backTo pos (starEach (e :: r) env) = [] := by
  cases e <;> exact fun h => nomatch h
theorem args_of_vals {M : Model} {env : Env} {pos : Pos} {fv : Value} {es : List Expr} {Q : Args → Shared → Prop} {E : Value → Shared → Prop} (hne : es.isEmpty = false) (hp : (backTo pos (starEach es env)).any (·.1) = false)
    (h : wpAny M A (spliced (backTo pos (starEach es env))) (fun vs s' => Q ⟨vs, []⟩ s') E s) : wpAny M A (evalArgs fv true (backTo pos (starEach es env)) []) Q E s := by
  generalize hl : backTo pos (starEach es env) = l at hp h
  cases l with
  | nil =>
    cases es with
    | nil => cases hne
    | cons e r => exact absurd hl (starEach_ne e r)
  | cons x r =>
    obtain ⟨b, t⟩ := x
    rw [List.any_cons, Bool.or_eq_false_iff] at hp
    obtain ⟨rfl, _⟩ := hp
    exact Calls.evalArgs_plain h

theorem keeper_fn {fd : FD} {a : Addr} {F : FuncData} (fa : FnAt c fd a F) {M : Model} (h : Heap) (k : KeepAll c.base h) : ∃ k, (k = Keeper.frame ∨ k = Keeper.machine ∨ k = Keeper.boundFrame) ∧ Looks M h (keeperOf (.ref a)) k := by
  obtain ⟨⟨cl, di, da, sl⟩, h1, h2⟩ := fa.at_
  cases h2
  exact ⟨.frame, .inl rfl, (Looks.ld (part := none) (k _ _ h1)).andThen .now⟩
theorem keeper_built {b : String} (hb : b ∈ builtNames) {M : Model} (h : Heap) : ∃ k, (k = Keeper.frame ∨ k = Keeper.machine ∨ k = Keeper.boundFrame) ∧ Looks M h (keeperOf (builtVal2 b)) k := by
  refine ⟨.machine, .inr (.inl rfl), ?_⟩
  unfold builtVal2
  split <;> exact Looks.of_pure rfl

/-- a fresh object is a temporary now -/
theorem Inv.new_temp {h h' : Heap} {a : Addr} (I : Inv c f T own loc h) (k : KeepAll h h') (hn : h.get? a = Option.none) (hb : c.base.get? a = Option.none) (lv : ∃ o, h'.get? a = some o) : Inv c f (a :: T) own loc h' ∧ Later h (f.M T own) h' (f.M (a :: T) own) := by
  have J := I.keeps k
  have hM : ¬ f.M T own a := I.fresh hn
  have fr : Free1 c f h' a := ⟨hb, lv, fun e => hM (.inr (.inl e)), fun e => hM (.inr (.inr (.inl e))), fun e => hM (.inl e)⟩
  have hM' : ∀ b o', (h.get? b = some o') → ¬ f.M T own b → ¬ f.M (a :: T) own b := fun b o' e hb q => by
    rcases q with q | q | q | ⟨x, q⟩ | q
    · exact hb (.inl q)
    · exact hb (.inr (.inl q))
    · exact hb (.inr (.inr (.inl q)))
    · exact hb (.inr (.inr (.inr (.inl ⟨x, q⟩))))
    · rcases List.mem_cons.mp q with rfl | q
      · rw [hn] at e; cases e
      · exact hb (.inr (.inr (.inr (.inr q))))
  have l : Later h (f.M T own) h' (f.M (a :: T) own) := fun b o' hb e => ⟨k b o' e, hM' b o' e hb⟩
  obtain ⟨m, F, hm⟩ := I.fr
  obtain ⟨m', F', _⟩ := J.fr
  refine ⟨⟨⟨m, ⟨F.ns.keeps k, F'.keep, F.above⟩, fun x v b hg hk => ?_⟩, fun x v b hg hk => ?_, J.cellAt, fun x b e => ⟨(J.ow x b e).1, fun q => ?_⟩, J.inj, fun b ha => ?_, List.nodup_cons.mpr ⟨fun q => ?_, I.tnd⟩, I.xl, I.ml, J.mcs, J.xs⟩, l⟩
  · obtain ⟨xv, hx, hb⟩ := hm x v b hg hk
    exact ⟨xv, hx, hb.later l fun _ a e => ⟨e, fun o e' => k a o e'⟩⟩
  · obtain ⟨hb, kk, xv, h1, hx, h2, h3⟩ := I.cells x v b hg hk
    exact ⟨hb, kk, xv, h1, hx, h2.keeps k, h3.later l⟩
  · rcases List.mem_cons.mp q with rfl | q
    · obtain ⟨o', e'⟩ := (I.ow x _ e).1.live
      rw [hn] at e'; cases e'
    · exact (J.ow x b e).2 q
  · rcases List.mem_cons.mp ha with rfl | ha
    · exact fr
    · exact J.tmp b ha
  · obtain ⟨o', e'⟩ := (I.tmp _ q).live
    rw [hn] at e'; cases e'
theorem Fm.M_temp {a b : Addr} (h : f.M (a :: T) own b) : f.M T own b ∨ b = a := by
  rcases h with q | q | q | ⟨x, q⟩ | q
  · exact .inl (.inl q)
  · exact .inl (.inr (.inl q))
  · exact .inl (.inr (.inr (.inl q)))
  · exact .inl (.inr (.inr (.inr (.inl ⟨x, q⟩))))
  · rcases List.mem_cons.mp q with rfl | q
    · exact .inr rfl
    · exact .inl (.inr (.inr (.inr (.inr q))))

theorem none_of_keep {h h' : Heap} (k : KeepAll h h') {a : Addr} (e : h'.get? a = Option.none) : h.get? a = Option.none := by
  cases q : h.get? a with
  | none => rfl
  | some o => rw [k a o q] at e; cases e

/-- the call of a def, behind its arguments -/
theorem call_tail {g : Str} {a : Addr} {vs : List V} {xs : List Value} {b : Bool} (ok : CallOk c R n g a) (r2 : Room2 A n) (I : Inv c f T own loc s.heap) (rs : Reps c s.heap (f.M T own) vs xs) (h : R.call g vs = some (v, b)) : ResOk c f A T own loc (call (.ref a) xs) v b s := by
  intro Q E hQ
  have hsz : c.base.objs.size ≤ s.heap.objs.size := by
    obtain ⟨m, F, _⟩ := I.fr
    obtain ⟨o, e⟩ := I.locals_live
    exact Nat.le_trans F.above (Nat.le_of_lt (Heap.lt_size e))
  refine ok vs v b h A s _ xs r2 I.keep hsz (fun _ => I.m_live) rs Q E fun x h' tk' k h0 h1 => ?_
  refine hQ x h' tk' own k (Less.rfl' _) (fun e => ⟨I.keeps k, h0 e⟩) fun e => ?_
  obtain ⟨b, hx, hn, hb, r⟩ := h1 e
  obtain ⟨J, l⟩ := I.new_temp k hn hb r.there
  exact ⟨b, hx, J, r.later (fun y o hm e => ⟨e, fun q => hm (Fm.M_temp q)⟩) fun _ e => e, .inl hn⟩

theorem load_def {g : Str} {fd : FD} {pos : Pos} (e1 : Env1 c f) (tp : Top1 c ft) (I : Inv c f T own loc s.heap) (hk : kindAt f.sc g = some .globalImplicit) (hg : ft g = some fd) (hc : g ≠ cmpName) {Q : Value → Shared → Prop} {E : Value → Shared → Prop}
    (h : ∀ a F, FnAt c fd a F → Q (.ref a) s) : wpAny (model c.prog c.w) A (eval (.Name g pos) f.env) Q E s := by
  obtain ⟨mg, mb, hgn, hbn, hf, hn, _⟩ := tp.names
  obtain ⟨a, F, fa, hm⟩ := hf g fd hg hc
  exact Calls.Name_function_global e1.kind (e1.gl _ hk) (Calls.loadGlobal_global (by rw [e1.glob]; exact I.ns hgn) hm (h a F fa)) (e1.dbg _ (by rw [hk]; rfl))

theorem ev_calldef {g : Str} {fd : FD} {args : List Expr} {xp pos : Pos} {vs : List V} {b : Bool} (S : Snd c ft R n) (tp : Top1 c ft) (e1 : Env1 c f) (r2 : Room2 A n) (I : Inv c f T own loc s.heap) (hk : kindAt f.sc g = some .globalImplicit) (hg : ft g = some fd) (hc : g ≠ cmpName)
    (hne : args.isEmpty = false) (h1 : vals R f.sc args loc = some (vs, loc')) (h2 : R.call g vs = some (v, b)) : ResOk c f A T own loc' (eval (.Call (.Name g xp) args [] pos) f.env) v b s := by
  intro Q E hQ
  rw [arm_eval_Call_Name']
  refine wpAny_bind (load_def e1 tp I hk hg hc fun a F fa => ?_)
  obtain ⟨p1, _⟩ := vals_plain S (env := f.env) (pos := pos) h1
  refine callWith_of (P := KeepAll c.base) (by show (_ || false) = false; rw [p1]; rfl) (fun h k => keeper_fn fa h k) (args_of_vals hne p1 ?_)
  refine vals_ok S e1 r2 args I h1 _ E fun xs h' tk' own' k l I' rs _ => ⟨I'.keep, ?_⟩
  rw [List.nil_append]
  exact ResOk.behind (s := s) k l (fun a o e q => fun x => q (Fm.M_sub l x)) (call_tail (s := { s with heap := h', toks := tk' }) (S.call g fd a F hg fa) r2 I' rs h2) hQ

theorem built_eq {b : String} {vs : List V} {v : V} (h : builtV b vs = some v) : builtVal2 b = builtVal b := by
  unfold builtVal2 builtVal
  rfl

theorem ev_callbuilt {g : Str} {b : String} {args : List Expr} {xp pos : Pos} {vs : List V} (S : Snd c ft R n) (tp : Top1 c ft) (e1 : Env1 c f) (r2 : Room2 A n) (I : Inv c f T own loc s.heap) (hk : kindAt f.sc g = some .globalImplicit) (hb : builtOf g = some b)
    (hne : args.isEmpty = false) (h1 : pks R f.sc args loc = some (vs, loc')) (h2 : builtV b vs = some v) : ResOk c f A T own loc' (eval (.Call (.Name g xp) args [] pos) f.env) v false s := by
  refine ValOk.res fun Q E hQ => ?_
  rw [arm_eval_Call_Name']
  refine wpAny_bind (load_built e1 tp I hk hb ?_)
  have p1 := pks_plain S (env := f.env) (pos := pos) h1
  refine callWith_of (P := fun _ => True) (by show (_ || false) = false; rw [p1]; rfl) (fun h _ => keeper_built (builtOf_mem hb).1 h) (args_of_vals hne p1 ?_)
  refine pks_ok S e1 r2 args I h1 _ E fun xs h' tk' own' k l I' rs => ⟨trivial, ?_⟩
  rw [List.nil_append, built_eq h2]
  have two : 2 ≤ h'.objs.size := by
    obtain ⟨b, o, hb, e⟩ := tp.two
    exact Nat.le_trans hb (Nat.le_of_lt (Heap.lt_size (I'.keep b o e)))
  refine (built_ok (s := { s with heap := h', toks := tk' }) r2.room two (fun _ => I'.m_live) rs h2).val I' Q E fun z h3 tk3 own3 k3 l3 I3 r3 => ?_
  exact hQ z h3 tk3 own3 (k.trans k3) (l3.trans l) I3 r3

theorem ev_make {arg : Expr} {xp pos : Pos} {u : V} (S : Snd c ft R n) (tp : Top1 c ft) (e1 : Env1 c f) (r2 : Room2 A n) (I : Inv c f T own loc s.heap) (hk : kindAt f.sc clsName = some .globalImplicit)
    (h1 : val R f.sc arg loc = some (u, loc')) : ResOk c f A T own loc' (eval (.Call (.Name clsName xp) [arg] [] pos) f.env) (.inst u) false s := by
  refine ValOk.res fun Q E hQ => ?_
  rw [arm_eval_Call_Name']
  obtain ⟨mg, mb, hgn, hbn, hf, hn, hC⟩ := tp.names
  refine wpAny_bind (Calls.Name_function_global e1.kind (e1.gl _ hk) (Calls.loadGlobal_global (by rw [e1.glob]; exact I.ns hgn) hC ?_) (e1.dbg _ (by rw [hk]; rfl)))
  have p0 : (backTo pos (starEach [arg] f.env)).any (·.1) = false := by rw [starEach_cons (val_star S h1)]; rfl
  refine callWith_of (P := KeepAll c.base) (by show (_ || false) = false; rw [p0]; rfl) (fun h k => tp.keepC h k) (args_of_vals rfl p0 ?_)
  refine wpAny_items_cons ?_ (starEach_cons (val_star S h1))
  refine val_ok S e1 r2 I h1 _ E fun x h' tk' own' k l I' r => ?_
  refine wpAny_items_nil ⟨I'.keep, ?_⟩
  refine tp.make A _ _ Q E I'.keep (by have := r2.dp; omega) fun y dx hs t m h'' tk'' k2 n1 n2 g1 g2 => ?_
  exact hQ _ h'' tk'' own' (k.trans k2) l (I'.keeps k2) (.inst (I'.fresh n1) (I'.fresh n2) g1 g2 (r.later (k2.later _)))

theorem getD_rep {h : Heap} {M : Addr → Prop} {es : List (Int × V)} {kvs : List (Int × Value)} {k : Int} {dv : V} {y : Value} (r : RepE c h M es kvs) (rd : Rep c h M dv y) : Rep c h M ((lookE es k).getD dv) ((valueAt kvs k).getD y) := by
  rcases r.look k with ⟨h1, h2⟩ | ⟨w, z, h1, h2, h3⟩
  · rw [h1, h2]; exact rd
  · rw [h1, h2]; exact h3

theorem ev_get {ox : Str} {xp ap pos : Pos} {a d : Expr} {es : List (Int × V)} {k : Int} {dv : V} {l1 l2 : Loc} (S : Snd c ft R n) (e1 : Env1 c f) (r2 : Room2 A n) (I : Inv c f T own loc s.heap) (hline : (ap.endLine == pos.line) = true)
    (h1 : pk R f.sc (.Name ox xp) loc = some (.dict es, l1)) (h2 : val R f.sc a l1 = some (.int k, l2)) (h3 : val R f.sc d l2 = some (dv, loc')) :
    ResOk c f A T own loc' (eval (.Call (.Attribute (.Name ox xp) (Str.ofString "get") ap) [a, d] [] pos) f.env) ((lookE es k).getD dv) false s := by
  refine ValOk.res fun Q E hQ => ?_
  have p1 := starEach_cons (rest := [d]) (env := f.env) (val_star S h2)
  have p2 := starEach_cons (rest := []) (env := f.env) (val_star S h3)
  refine wpAny_Call_method_lateS rfl (by rw [p1, p2]; rfl) hline ?_
  refine pk_ok S e1 r2 I h1 _ E fun x h' tk' own' kk l I' ra => ?_
  obtain ⟨d0, kvs, rfl, ld, dd, re⟩ := ra.dict
  refine ⟨"dict", "dict.get", PySem.F.plainAttrs_dict, PySem.F.slot_dict_get, PySem.F.type_dict_get, dd.typeIs, dd.mapOf.noDict, ?_⟩
  have hp : (backTo pos (starEach [a, d] f.env)).any (·.1) = false := by rw [p1, p2]; rfl
  refine Calls.callWith_builtin hp (args_of_vals rfl hp ?_)
  refine wpAny_items_cons ?_ p1
  refine val_ok (s := { s with heap := h', toks := tk' }) S e1 r2 I' h2 _ E fun x h2 tk2 own2 k2 l2 I2 rk => ?_
  refine wpAny_items_cons ?_ p2
  refine val_ok (s := { s with heap := h2, toks := tk2 }) S e1 r2 I2 h3 _ E fun y h3 tk3 own3 k3 l3 I3 rd => ?_
  refine wpAny_items_nil ?_
  obtain ⟨t, rfl⟩ := rk.seen.int
  have dd3 : h3.DictOf (intKind c.prog c.w) d0 kvs := by obtain ⟨o, x, y, q, r⟩ := dd; exact ⟨o, x, y, k3 _ _ (k2 _ _ q), r⟩
  refine call_meetsIn PySem.F.slot_dict_get dd3.typeIs PySem.F.entry_dict_get (PySem.F.args_dict_get_3 _ _ _) (meets_dict_get_default (intKind c.prog c.w) d0 (k := k) (by simp [intKind, Value.isInt]) ld y) ⟨_, dd3.mapOf, ?_⟩
  exact hQ _ h3 _ own3 ((kk.trans k2).trans k3) (l3.trans (l2.trans l)) I3 (getD_rep ((re.later (later_less k2 l2)).later (later_less k3 l3)) rd)

theorem ev_cmpcall {ox : Str} {xp ap pos : Pos} {args : List Expr} {u : V} {vs : List V} {l1 : Loc} {b : Bool} {fd : FD} (S : Snd c ft R n) (tp : Top1 c ft) (e1 : Env1 c f) (r2 : Room2 A n) (I : Inv c f T own loc s.heap) (hline : (ap.endLine == pos.line) = true) (hg : ft cmpName = some fd)
    (hne : args.isEmpty = false) (hlen : args.length < 20) (h1 : val R f.sc (.Name ox xp) loc = some (.inst u, l1)) (h2 : vals R f.sc args l1 = some (vs, loc')) (h3 : R.call cmpName (.inst u :: vs) = some (v, b)) :
    ResOk c f A T own loc' (eval (.Call (.Attribute (.Name ox xp) cmpName ap) args [] pos) f.env) v b s := by
  intro Q E hQ
  obtain ⟨p1, p2⟩ := vals_plain S (env := f.env) (pos := pos) h2
  obtain ⟨a, F, fa, hcm⟩ := tp.cmp fd hg
  rw [arm_eval_Call, show attributeBase (.Name ox xp) cmpName f.env (eval (.Name ox xp) f.env) = eval (.Name ox xp) f.env from rfl]
  refine wpAny_bind ?_
  refine val_ok S e1 r2 I h1 _ E fun x h' tk' own' k l I' r => ?_
  refine wpAny_bind (wpAny_standAt ?_)
  have hform : methodCallForm (args.length + ([] : List Keyword).length) (backTo pos (starEach args f.env)) (backToKw pos (keywordEach [] f.env)) = true := by
    unfold methodCallForm
    rw [p2]
    show (true && true && decide (args.length + 0 + 0 < 30)) = true
    simp; omega
  have hpos : methodCallPos true (.Name ox xp) f.env ap pos = pure pos := by unfold methodCallPos; simp [hline]
  unfold methodCall
  rw [hform]
  have r0 := r
  obtain ⟨ax, dx, hs, t, m, y, rfl, g1, g2, ru⟩ := r.inv
  · refine wpAny_bind (wpAny_holding (hcm A _ _ _ _ _ _ _ _ _ E I'.keep g1 g2 ?_))
    refine wpAny_bind (wpAny_of_eq hpos ?_)
    refine callWith_of (P := KeepAll c.base) (by show (_ || false) = false; rw [p1]; rfl) (fun h k => keeper_fn fa h k) (args_of_vals hne p1 ?_)
    refine vals_ok (s := { s with heap := h', toks := tk' }) S e1 r2 args I' h2 _ E fun xs h2 tk2 own2 k2 l2 I2 rs _ => ⟨I2.keep, ?_⟩
    exact ResOk.behind (s := s) (k.trans k2) (l2.trans l) (fun a o e q => fun x => q (Fm.M_sub (l2.trans l) x)) (call_tail (s := { s with heap := h2, toks := tk2 }) (S.call cmpName fd a F hg fa) r2 I2 (.cons (r0.later (later_less k2 l2)) rs) h3) hQ
end
end Mine
end
/-! Itr -/
section
set_option maxRecDepth 100000
set_option linter.unusedVariables false
namespace Mine
open PySem PySem.W PyProof.Rows

/-- an iterator at I that will give the items; St tells how far it is -/
structure It (c : Cx) (A : Around) (t : Expr) (I : Addr) (wr : List Addr) (items : List V) (St : Nat → (Addr → Prop) → Heap → Prop) : Prop where
  self : ∀ i M (s : Shared) (Q : Value → Shared → Prop) (E : Value → Shared → Prop), St i M s.heap → Q (.ref I) s → wpAny (model c.prog c.w) A (pyIter (.ref I)) Q E s
  live : ∀ i M h, St i M h → ∀ b ∈ wr, ∃ o, h.get? b = some o
  frame : ∀ i M M' h h', St i M h → Later h M h' M' → (∀ b ∈ wr, ∀ o, h.get? b = some o → h'.get? b = some o) → St i M' h'
  item : ∀ i v M (s : Shared) (Q : Value → Shared → Prop) (E : Value → Shared → Prop), items[i]? = some v → St i M s.heap → (∀ b ∈ wr, M b) → (∀ a, M a → ∃ o, s.heap.get? a = some o) →
    (∀ x h' tk, (∀ b o, b ∉ wr → s.heap.get? b = some o → h'.get? b = some o) → St (i + 1) M h' → Rep c h' M v x → Q x { s with heap := h', toks := tk }) →
    wpAny (model c.prog c.w) A (pyNext (.ref I)) (fun r s₁ => ∃ x, r = some x ∧ wpAny (model c.prog c.w) A (letOwnedTupleGo t (.ref I) x) (fun _ s₂ => Q x s₂) E s₁) E s
  done : ∀ M (s : Shared) (Q : Option Value → Shared → Prop) (E : Value → Shared → Prop), St items.length M s.heap →
    (∀ h' tk, (∀ b o, b ∉ wr → s.heap.get? b = some o → h'.get? b = some o) → Q Option.none { s with heap := h', toks := tk }) → wpAny (model c.prog c.w) A (pyNext (.ref I)) Q E s

noncomputable def ownsTuples : List String := ["enumerate", "zip", "dict_itemiterator", "dict_reverseitemiterator", "odict_iterator", "itertools.zip_longest", "itertools.pairwise"]

set_option backward.match.sparseCases true in
theorem go_plain {prog : Program} {w : World} {A : Around} {E : Value → Shared → Prop} {s : Shared} {t : Expr} {I : Addr} {x : Value} {o : Obj} {n : String} {vs : Array Value} {Q : Unit → Shared → Prop}
    (ho : s.heap.get? I = some o) (hc : o.cls = .type n) (hd : o.data = .fields vs) (hn : ownsTuples.contains n = false) (h : Q () s) : wpAny (model prog w) A (letOwnedTupleGo t (.ref I) x) Q E s := by
  have key : ∀ a, wpAny (model prog w) A (do
      let o ← load I
      match o.cls, o.data with
      | .type n, .fields vs =>
        if ownsTuples.contains n && vs[0]? == some (rawInt a) then
          rule "for.unpacks-the-owned-tuple"
          updateField I 0 .none
      | _, _ => pure () : Sem Unit) Q E s := fun a => by
    refine wpAny_bind (wpAny_load ho ?_)
    rw [hc, hd]
    show wpAny _ A (if (ownsTuples.contains n && vs[0]? == some (rawInt a)) = true then _ else _) Q E s
    rw [hn, Bool.false_and, if_neg (by decide)]
    exact wpAny_pure h
  clear ho hc hd hn
  cases t with
  | Tuple _ _ _ => cases x with
    | ref a => exact key a
    | _ => exact wpAny_pure h
  | List _ _ => cases x with
    | ref a => exact key a
    | _ => exact wpAny_pure h
  | _ => exact wpAny_pure h

theorem keep_later {h h' : Heap} {M : Addr → Prop} {wr : List Addr} (hw : ∀ b ∈ wr, M b) (k : ∀ b o, b ∉ wr → h.get? b = some o → h'.get? b = some o) : Later h M h' M := fun a o hm e => ⟨k a o (fun q => hm (hw a q)) e, hm⟩

/-- a list (a tuple) of values, off M -/
noncomputable def SeqAt1 (c : Cx) (cls : String) (ax : Addr) (items : List V) (xs : List Value) (M : Addr → Prop) (h : Heap) : Prop := (∃ n, h.get? ax = some { cls := .type cls, data := .seq (List.toArray xs) n }) ∧ ¬ M ax ∧ Reps c h M items xs
theorem SeqAt1.later {c : Cx} {cls : String} {ax : Addr} {items : List V} {xs : List Value} {M M' : Addr → Prop} {h h' : Heap} (x : SeqAt1 c cls ax items xs M h) (l : Later h M h' M') : SeqAt1 c cls ax items xs M' h' :=
  let ⟨⟨n, e⟩, hm, r⟩ := x
  ⟨⟨n, (l _ _ hm e).1⟩, (l _ _ hm e).2, r.later l⟩

theorem get_lt {items : List V} {i : Nat} {v : V} (h : items[i]? = some v) : i < items.length := by
  rcases Nat.lt_or_ge i items.length with q | q
  · exact q
  · rw [List.getElem?_eq_none q] at h; cases h

theorem entry_itemiter : entryFor table "dict_itemiterator.__iter__" = some Builtin.«dict_keyiterator.__iter__» :=
  entryFor_alias (id' := "dict_keyiterator.__iter__") (by kernel_rfl) rfl (by decide +kernel) (by kernel_rfl)

section
variable {c : Cx} {A : Around} {t : Expr}

theorem It.list (hh : A.handled = none) (I ax : Addr) (items : List V) (xs : List Value) : It c A t I [I] items (fun i M h => h.IsListIter I ax i ∧ SeqAt1 c "list" ax items xs M h) where
  self := fun i M s Q E st hq => wpAny_pyIter_listiter st.1 hq
  live := fun i M h st b hb => by
    rw [List.mem_singleton] at hb
    subst hb
    obtain ⟨o, e, _⟩ := st.1
    exact ⟨o, e⟩
  frame := fun i M M' h h' st l k => ⟨st.1.at fun o e => k I (by simp) o e, st.2.later l⟩
  item := fun i v M s Q E hv st hw hM hQ => by
    obtain ⟨hit, ⟨n, e⟩, hm, r⟩ := st
    obtain ⟨x, hx, rx⟩ := r.get hv
    have hne : ax ≠ I := fun q => hm (q ▸ hw I (by simp))
    refine wpAny_pyNext_list_item hit (list_obj e) (x := x) (by simpa using hx) fun h' hit' hs' => ⟨x, rfl, ?_⟩
    have k : ∀ b o, b ∉ [I] → s.heap.get? b = some o → h'.get? b = some o := fun b o hb e => hs'.extBut b o (fun q => hb (by simp [q])) e
    have l := keep_later hw k
    obtain ⟨o, ho, hc, hd⟩ := id hit'
    exact go_plain (s := { s with heap := h' }) ho hc hd (by decide) (hQ x h' s.toks k ⟨hit', SeqAt1.later ⟨⟨n, e⟩, hm, r⟩ l⟩ (rx.later l))
  done := fun M s Q E st hQ => by
    obtain ⟨hit, ⟨n, e⟩, hm, r⟩ := st
    exact wpAny_pyNext_list_end hh hit (list_obj e) (by simp [r.length]) fun h' he' => hQ h' s.toks fun b o hb e => he' b o (fun q => hb (by simp [q])) e

theorem tup_obj {h : Heap} {a : Addr} {xs : List Value} {n : Nat} (e : h.get? a = some { cls := .type "tuple", data := .seq (List.toArray xs) n }) : h.IsTuple a xs.toArray := ⟨_, e, rfl, n, rfl⟩

theorem It.tup (hh : A.handled = none) (I ax : Addr) (items : List V) (xs : List Value) : It c A t I [I] items (fun i M h => h.IsTupleIter I ax i ∧ SeqAt1 c "tuple" ax items xs M h) where
  self := fun i M s Q E st hq => wpAny_pyIter_tupleiter st.1 hq
  live := fun i M h st b hb => by
    rw [List.mem_singleton] at hb
    subst hb
    obtain ⟨o, e, _⟩ := st.1
    exact ⟨o, e⟩
  frame := fun i M M' h h' st l k => ⟨st.1.at fun o e => k I (by simp) o e, st.2.later l⟩
  item := fun i v M s Q E hv st hw hM hQ => by
    obtain ⟨hit, ⟨n, e⟩, hm, r⟩ := st
    obtain ⟨x, hx, rx⟩ := r.get hv
    refine wpAny_pyNext_tuple_item hit (tup_obj e) (x := x) (by simpa using hx) fun h' hit' hs' => ⟨x, rfl, ?_⟩
    have k : ∀ b o, b ∉ [I] → s.heap.get? b = some o → h'.get? b = some o := fun b o hb e => hs'.extBut b o (fun q => hb (by simp [q])) e
    have l := keep_later hw k
    obtain ⟨o, ho, hc, hd⟩ := id hit'
    exact go_plain (s := { s with heap := h' }) ho hc hd (by decide) (hQ x h' s.toks k ⟨hit', SeqAt1.later ⟨⟨n, e⟩, hm, r⟩ l⟩ (rx.later l))
  done := fun M s Q E st hQ => by
    obtain ⟨hit, ⟨n, e⟩, hm, r⟩ := st
    exact wpAny_pyNext_tuple_end hh hit (tup_obj e) (by simp [r.length]) fun h' he' => hQ h' s.toks fun b o hb e => he' b o (fun q => hb (by simp [q])) e

/-- a dict, off M -/
noncomputable def DictAt1 (c : Cx) (d : Addr) (es : List (Int × V)) (kvs : List (Int × Value)) (ep : Nat) (M : Addr → Prop) (h : Heap) : Prop := h.DictAt (intKind c.prog c.w) d kvs ep ∧ ¬ M d ∧ RepE c h M es kvs
theorem DictAt1.later {d : Addr} {es : List (Int × V)} {kvs : List (Int × Value)} {ep : Nat} {M M' : Addr → Prop} {h h' : Heap} (x : DictAt1 c d es kvs ep M h) (l : Later h M h' M') : DictAt1 c d es kvs ep M' h' :=
  let ⟨⟨o, es, e, q⟩, hm, r⟩ := x
  ⟨⟨o, es, (l _ _ hm e).1, q⟩, (l _ _ hm e).2, r.later l⟩

theorem RepE.get {h : Heap} {M : Addr → Prop} {es : List (Int × V)} : ∀ {kvs : List (Int × Value)}, RepE c h M es kvs → ∀ {i : Nat} {p : Int × V}, es[i]? = some p → ∃ x, kvs[i]? = some (p.1, x) ∧ Rep c h M p.2 x := by
  induction es with
  | nil => intro kvs r i p e; exact no e
  | cons q es ih =>
    intro kvs r i p e
    obtain ⟨x, ys, rfl, a, r'⟩ := r.inv1
    cases i with
    | zero => rw [← some1 e]; exact ⟨x, rfl, a⟩
    | succ i => exact ih r' e

theorem It.keys (hh : A.handled = none) (I d : Addr) (es : List (Int × V)) (kvs : List (Int × Value)) (ep : Nat) : It c A t I [I] (es.map fun e => V.int e.1) (fun i M h => h.IsKeyIter I d i kvs.length ep ∧ DictAt1 c d es kvs ep M h) where
  self := fun i M s Q E st hq => wpAny_pyIter_keyiter st.1 hq
  live := fun i M h st b hb => by
    rw [List.mem_singleton] at hb
    subst hb
    obtain ⟨o, e, _⟩ := st.1
    exact ⟨o, e⟩
  frame := fun i M M' h h' st l k => ⟨st.1.at fun o e => k I (by simp) o e, st.2.later l⟩
  item := fun i v M s Q E hv st hw hM hQ => by
    obtain ⟨hit, hd, hm, r⟩ := st
    rw [List.getElem?_map] at hv
    obtain ⟨p, hp, rfl⟩ := Option.map_eq_some_iff.mp hv
    obtain ⟨x, hx, rx⟩ := RepE.get r hp
    refine wpAny_pyNext_dict_item hit hd hx fun key h' hkey hit' hs' => ⟨key, rfl, ?_⟩
    have k : ∀ b o, b ∉ [I] → s.heap.get? b = some o → h'.get? b = some o := fun b o hb e => hs'.extBut b o (fun q => hb (by simp [q])) e
    have l := keep_later hw k
    obtain ⟨o, ho, hc, hdd⟩ := id hit'
    obtain ⟨u, rfl⟩ := Value.isInt_shape hkey
    exact go_plain (s := { s with heap := h' }) ho hc hdd (by decide) (hQ _ h' s.toks k ⟨hit', DictAt1.later ⟨hd, hm, r⟩ l⟩ (.int _ u))
  done := fun M s Q E st hQ => by
    obtain ⟨hit, hd, hm, r⟩ := st
    rw [List.length_map, ← r.length] at hit
    exact wpAny_pyNext_dict_end hh hit hd (by simp) fun h' he' => hQ h' s.toks fun b o hb e => he' b o (fun q => hb (by simp [q])) e

theorem It.values (hh : A.handled = none) (I d : Addr) (es : List (Int × V)) (kvs : List (Int × Value)) (ep : Nat) : It c A t I [I] (es.map fun e => e.2) (fun i M h => h.IsValIter I d i kvs.length ep ∧ DictAt1 c d es kvs ep M h) where
  self := fun i M s Q E st hq => wpAny_pyIter_valiter st.1 hq
  live := fun i M h st b hb => by
    rw [List.mem_singleton] at hb
    subst hb
    obtain ⟨o, e, _⟩ := st.1
    exact ⟨o, e⟩
  frame := fun i M M' h h' st l k => ⟨st.1.at fun o e => k I (by simp) o e, st.2.later l⟩
  item := fun i v M s Q E hv st hw hM hQ => by
    obtain ⟨hit, hd, hm, r⟩ := st
    rw [List.getElem?_map] at hv
    obtain ⟨p, hp, rfl⟩ := Option.map_eq_some_iff.mp hv
    obtain ⟨x, hx, rx⟩ := RepE.get r hp
    refine wpAny_pyNext_values_item hit hd hx fun h' hit' hs' => ⟨x, rfl, ?_⟩
    have k : ∀ b o, b ∉ [I] → s.heap.get? b = some o → h'.get? b = some o := fun b o hb e => hs'.extBut b o (fun q => hb (by simp [q])) e
    have l := keep_later hw k
    obtain ⟨o, ho, hc, hdd⟩ := id hit'
    exact go_plain (s := { s with heap := h' }) ho hc hdd (by decide) (hQ x h' s.toks k ⟨hit', DictAt1.later ⟨hd, hm, r⟩ l⟩ (rx.later l))
  done := fun M s Q E st hQ => by
    obtain ⟨hit, hd, hm, r⟩ := st
    rw [List.length_map, ← r.length] at hit
    exact wpAny_pyNext_values_end hh hit hd (by simp) fun h' he' => hQ h' s.toks fun b o hb e => he' b o (fun q => hb (by simp [q])) e

theorem It.items (hh : A.handled = none) (I d : Addr) (es : List (Int × V)) (kvs : List (Int × Value)) (ep : Nat) {elts : List Expr} {m : Nat} {p : Pos} :
    It c A (.Tuple elts m p) I [I] (es.map fun e => V.tup [.int e.1, e.2]) (fun i M h => (∃ ok ov, IsItemIter h I d i kvs.length ep ok ov) ∧ DictAt1 c d es kvs ep M h) where
  self := fun i M s Q E st hq => by
    obtain ⟨⟨ok, ov, hit⟩, _⟩ := st
    have hT : s.TypeIs (.ref I) "dict_itemiterator" := ⟨_, hit, rfl⟩
    refine wpAny_pyIter_slot hT PySem.F.slot_dict_itemiterator_iter (wpAny_call_entry PySem.F.slot_dict_itemiterator_iter hT entry_itemiter ?_ (PySem.F.args_dict_itemiterator_iter_1 _))
    show wpAny _ _ (ret (.ref I)) _ _ s
    exact wpAny_pure ⟨_, rfl, "dict_itemiterator", _, hT, PySem.F.slot_dict_itemiterator_next.lookup, hq⟩
  live := fun i M h st b hb => by
    rw [List.mem_singleton] at hb
    subst hb
    obtain ⟨⟨ok, ov, hit⟩, _⟩ := st
    exact ⟨_, hit⟩
  frame := fun i M M' h h' st l k => by
    obtain ⟨⟨ok, ov, hit⟩, st2⟩ := st
    exact ⟨⟨ok, ov, k I (by simp) _ hit⟩, st2.later l⟩
  item := fun i v M s Q E hv st hw hM hQ => by
    obtain ⟨⟨ok, ov, hit⟩, hd, hm, r⟩ := st
    rw [List.getElem?_map] at hv
    obtain ⟨p, hp, rfl⟩ := Option.map_eq_some_iff.mp hv
    obtain ⟨x, hx, rx⟩ := RepE.get r hp
    refine wpAny_pyNext_items_item hit hd hx fun key h' hkey hit' htup hsz hk => ⟨_, rfl, ?_⟩
    refine wpAny_letOwnedTupleGo_items (s := { s with heap := h' }) hit' fun h'' hit'' hs'' => ?_
    have hI : I < s.heap.objs.size := Heap.lt_size hit
    have k : ∀ b o, b ∉ [I] → s.heap.get? b = some o → h''.get? b = some o := fun b o hb e => hs''.extBut b o (fun q => hb (by simp [q])) (hk b o (fun q => hb (by simp [q])) e)
    have l := keep_later hw k
    obtain ⟨u, rfl⟩ := Value.isInt_shape hkey
    have hoff : ¬ M s.heap.objs.size := fun q => by
      obtain ⟨o, e⟩ := hM _ q
      exact absurd (Heap.lt_size e) (Nat.lt_irrefl _)
    refine hQ _ h'' s.toks k ⟨⟨_, _, hit''⟩, DictAt1.later ⟨hd, hm, r⟩ l⟩ (.tup (n := 0) hoff (xs := [.int p.1 u, x]) ?_ (.cons (.int _ u) (.cons (rx.later l) .nil)))
    exact hs''.extBut _ _ (Nat.ne_of_gt hI) htup
  done := fun M s Q E st hQ => by
    obtain ⟨⟨ok, ov, hit⟩, hd, hm, r⟩ := st
    rw [List.length_map, ← r.length] at hit
    exact wpAny_pyNext_items_end hh hit hd (by simp) fun h' he' => hQ h' s.toks fun b o hb e => he' b o (fun q => hb (by simp [q])) e

theorem It.range (hh : A.handled = none) (I : Addr) (n : Nat) : It c A t I [I] (upTo n) (fun i M h => IsRangeIter h I (i : Nat) ((n : Int) - (i : Nat)) 1) where
  self := fun i M s Q E st hq => wpAny_pyIter_rangeiter st hq
  live := fun i M h st b hb => by
    rw [List.mem_singleton] at hb
    subst hb
    exact ⟨_, st⟩
  frame := fun i M M' h h' st l k => k I (by simp) _ st
  item := fun i v M s Q E hv st hw hM hQ => by
    have hlt := get_lt hv
    simp only [upTo, List.length_map, List.length_range] at hlt
    unfold upTo at hv
    rw [List.getElem?_map, List.getElem?_range hlt] at hv
    cases hv
    refine wpAny_pyNext_range_item st (by omega) fun h' hit' hs' => ⟨_, rfl, ?_⟩
    have k : ∀ b o, b ∉ [I] → s.heap.get? b = some o → h'.get? b = some o := fun b o hb e => hs'.extBut b o (fun q => hb (by simp [q])) e
    refine go_plain (s := { s with heap := h', toks := s.toks + 1 }) hit' rfl rfl (by decide) (hQ _ h' _ k ?_ (.int _ _))
    have e1 : ((i + 1 : Nat) : Int) = (i : Int) + 1 := by omega
    have e2 : (n : Int) - ((i + 1 : Nat) : Int) = (n : Int) - (i : Nat) - 1 := by omega
    rw [e2, e1]; exact hit'
  done := fun M s Q E st hQ => by
    have e : (upTo n).length = n := by simp [upTo]
    rw [e] at st
    exact wpAny_pyNext_range_end hh st (by omega) fun h' he' => hQ h' s.toks fun b o hb e => he' b o (fun q => hb (by simp [q])) e

theorem enumFrom_get : ∀ (vs : List V) (k : Int) (i : Nat) (v : V), (enumFrom k vs)[i]? = some v → ∃ u, vs[i]? = some u ∧ v = .tup [.int (k + i), u]
  | [], k, i, v, h => by simp [enumFrom] at h
  | u :: r, k, 0, v, h => by simp [enumFrom] at h; exact ⟨u, rfl, by simp [h]⟩
  | u :: r, k, i + 1, v, h => by
    simp only [enumFrom, List.getElem?_cons_succ] at h
    obtain ⟨w, hw, rfl⟩ := enumFrom_get r (k + 1) i v h
    refine ⟨w, by simpa using hw, ?_⟩
    have : k + 1 + (i : Int) = k + ((i + 1 : Nat) : Int) := by omega
    rw [this]
theorem enumFrom_length : ∀ (vs : List V) (k : Int), (enumFrom k vs).length = vs.length
  | [], _ => rfl
  | _ :: r, k => by simp [enumFrom, enumFrom_length r]

theorem It.enum (hh : A.handled = none) (e it ax : Addr) (hei : e ≠ it) (vs : List V) (xs : List Value) {elts : List Expr} {m : Nat} {p : Pos} :
    It c A (.Tuple elts m p) e [e, it] (enumFrom 0 vs) (fun i M h => (∃ old, IsEnum h e it i old) ∧ h.IsListIter it ax i ∧ SeqAt1 c "list" ax vs xs M h) where
  self := fun i M s Q E st hq => by
    obtain ⟨⟨old, he⟩, _⟩ := st
    exact wpAny_pyIter_enum he hq
  live := fun i M h st b hb => by
    obtain ⟨⟨old, he⟩, ⟨o, hit, _⟩, _⟩ := st
    rcases List.mem_cons.mp hb with rfl | hb
    · exact ⟨_, he⟩
    · rw [List.mem_singleton] at hb
      subst hb
      exact ⟨_, hit⟩
  frame := fun i M M' h h' st l k => by
    obtain ⟨⟨old, he⟩, hit, sq⟩ := st
    exact ⟨⟨old, k e (by simp) _ he⟩, hit.at fun o e => k it (by simp) o e, sq.later l⟩
  item := fun i v M s Q E hv st hw hM hQ => by
    obtain ⟨⟨old, he⟩, hit, ⟨n, ex⟩, hm, r⟩ := st
    obtain ⟨u, hu, rfl⟩ := enumFrom_get _ _ _ _ hv
    obtain ⟨x, hx, rx⟩ := r.get hu
    refine wpAny_pyNext_enum_item he hit (list_obj ex) (x := x) (by simpa using hx) hei fun h' ho hit' hT hsz hk => ⟨_, rfl, ?_⟩
    refine wpAny_letOwnedTupleGo_enum (s := { s with heap := h', toks := s.toks + 1 }) ho fun h'' he' hs' => ?_
    have k : ∀ b o, b ∉ [e, it] → s.heap.get? b = some o → h''.get? b = some o := fun b o hb q => (hs'.2 b fun e' => hb (by simp [e'])).trans (hk b o (fun e' => hb (by simp [e'])) (fun e' => hb (by simp [e'])) q)
    have l := keep_later hw k
    have hoff : ¬ M s.heap.objs.size := fun q => by
      obtain ⟨o, e⟩ := hM _ q
      exact absurd (Heap.lt_size e) (Nat.lt_irrefl _)
    have helt : e < s.heap.objs.size := Heap.lt_size he
    have e0 : (0 : Int) + (i : Int) = (i : Int) := by omega
    rw [e0] at hQ
    refine hQ _ h'' _ k ⟨⟨x, by simpa using he'⟩, hit'.at fun o y => (hs'.2 it hei.symm).trans y, SeqAt1.later ⟨⟨n, ex⟩, hm, r⟩ l⟩ (.tup (n := 0) hoff (xs := [.int i s.toks, x]) ?_ (.cons (.int _ _) (.cons (rx.later l) .nil)))
    exact (hs'.2 _ (Nat.ne_of_gt helt)).trans hT
  done := fun M s Q E st hQ => by
    obtain ⟨⟨old, he⟩, hit, ⟨n, ex⟩, hm, r⟩ := st
    rw [enumFrom_length] at hit he
    exact wpAny_pyNext_enum_end hh he hit (list_obj ex) (Array.getElem?_eq_none (by simp [r.length])) fun h' hx => hQ h' s.toks fun b o hb y => hx b o (fun e' => hb (by simp [e'])) y
end
end Mine
end
/-! Itr2 -/
section
set_option maxRecDepth 100000
set_option linter.unusedVariables false
namespace Mine
open PySem PySem.W PyProof.Rows

theorem globN_kind {sc : Scope} {g : Str} (h : globN sc g = true) : kindAt sc g = some .globalImplicit := by
  unfold globN at h
  exact eq_of_beq h

section
variable {c : Cx} {ft : Str → Option FD} {R : Ev} {n : Nat} {f : Fm} {A : Around} {T : List Addr} {own : Own} {loc loc' : Loc} {s : Shared} {e t : Expr} {v : V}

/-- a fresh iterator, pushed behind h -/
theorem iter_push {h h' : Heap} {wr : List Addr} (I : Inv c f T own loc h) (k : KeepAll h h') (hw : ∀ b ∈ wr, h.get? b = Option.none) (lv : ∀ b ∈ wr, ∃ o, h'.get? b = some o) :
    Inv c (f.addX (· ∈ wr)) T own loc h' ∧ Later h (f.M T own) h' ((f.addX (· ∈ wr)).M T own) := ⟨I.addX hw k lv, Later.addX hw k⟩

theorem ref_of_kindless {h : Heap} {M : Addr → Prop} {es : List (Int × V)} {x : Value} (r : Rep c h M (.dict es) x) : ∃ d kvs, x = .ref d ∧ ¬ M d ∧ (d == sysModules) = false ∧ h.DictOf (intKind c.prog c.w) d kvs ∧ RepE c h M es kvs := r.inv

theorem rep_list {h : Heap} {M : Addr → Prop} {vs : List V} {x : Value} (r : Rep c h M (.list vs) x) : ∃ a xs n, x = .ref a ∧ ¬ M a ∧ h.get? a = some { cls := .type "list", data := .seq (List.toArray xs) n } ∧ Reps c h M vs xs := r.inv
theorem rep_tup {h : Heap} {M : Addr → Prop} {vs : List V} {x : Value} (r : Rep c h M (.tup vs) x) : ∃ a xs n, x = .ref a ∧ ¬ M a ∧ h.get? a = some { cls := .type "tuple", data := .seq (List.toArray xs) n } ∧ Reps c h M vs xs := r.inv

/-- what is asked behind the making of an iterator -/
noncomputable def ItK (c : Cx) (f : Fm) (A : Around) (t : Expr) (T : List Addr) (own : Own) (loc' : Loc) (s : Shared) (items : List V) (Q : Value → Shared → Prop) : Prop :=
  ∀ Ia h' tk' own' wr St, KeepAll s.heap h' → Less own' own → Inv c (f.addX (· ∈ wr)) T own' loc' h' → (∀ b ∈ wr, s.heap.get? b = Option.none) → It c A t Ia wr items St → St 0 ((f.addX (· ∈ wr)).M T own') h' → items.length ≤ 100000 → Q (.ref Ia) { s with heap := h', toks := tk' }
/-- an iterator, pushed -/
theorem ItK.push {items : List V} {Q : Value → Shared → Prop} (hQ : ItK c f A t T own loc' s items Q) {h' : Heap} {tk' : Nat} {own' : Own} (o : Obj) {St : Nat → (Addr → Prop) → Heap → Prop} (k : KeepAll s.heap h') (l : Less own' own) (I : Inv c f T own' loc' h') (hf : o.isFreed = false) (it : It c A t h'.objs.size [h'.objs.size] items St)
    (st : Later h' (f.M T own') (h'.push o) ((f.addX (· ∈ [h'.objs.size])).M T own') → (h'.push o).get? h'.objs.size = some o → St 0 ((f.addX (· ∈ [h'.objs.size])).M T own') (h'.push o)) (hl : items.length ≤ 100000) : Q (.ref h'.objs.size) { s with heap := h'.push o, toks := tk' } := by
  have e : (h'.push o).get? h'.objs.size = some o := Heap.get?_push_size _ hf
  have k2 := KeepAll.push h' o
  obtain ⟨J, lJ⟩ := iter_push (wr := [h'.objs.size]) I k2 (fun b hb => by rw [List.mem_singleton] at hb; subst hb; exact none_at_end _) (fun b hb => by rw [List.mem_singleton] at hb; subst hb; exact ⟨_, e⟩)
  exact hQ _ _ tk' own' _ _ (k.trans k2) l J (fun b hb => by rw [List.mem_singleton] at hb; subst hb; exact fresh_end k) it (st lJ e) hl
theorem iter_range {gp p : Pos} {a : Expr} (S : Snd c ft R n) (tp : Top1 c ft) (e1 : Env1 c f) (r2 : Room2 A n) (I : Inv c f T own loc s.heap) {m : Int} (hg : globN f.sc (Str.ofString "range") = true) (h1 : val R f.sc a loc = some (.int m, loc')) (hm : 0 ≤ m ∧ m ≤ 100) (Q : Value → Shared → Prop) (E : Value → Shared → Prop) (hQ : ItK c f A t T own loc' s (upTo m.toNat) Q) :
    wpAny (model c.prog c.w) A (eval (.Call (.Name (Str.ofString "range") gp) [a] [] p) f.env) (fun x s₁ => wpAny (model c.prog c.w) A (pyIter x) Q E s₁) E s := by
  rw [arm_eval_Call_Name']
  refine wpAny_bind (load_built (b := "range") e1 tp I (globN_kind hg) (by decide) ?_)
  have p0 : (backTo p (starEach [a] f.env)).any (·.1) = false := by rw [starEach_cons (val_star S h1)]; rfl
  refine callWith_of (P := fun _ => True) (by show (_ || false) = false; rw [p0]; rfl) (fun h _ => keeper_built (b := "range") (by decide) h) (args_of_vals rfl p0 ?_)
  refine wpAny_items_cons ?_ (starEach_cons (val_star S h1))
  refine val_ok S e1 r2 I h1 _ E fun x h' tk' own' k l I' r => ?_
  obtain ⟨u, rfl⟩ := r.seen.int
  refine wpAny_items_nil ⟨trivial, ?_⟩
  refine call_range_1 ?_
  generalize ho : ({ cls := .type "range", data := .fields #[.int 0 tk', .int m u, .int 1 (tk' + 1)] } : Obj) = o
  have k1 := KeepAll.push h' o
  have hr := IsRange.new h' 0 m 1 tk' u (tk' + 1)
  rw [show ({ cls := .type "range", data := .fields #[.int 0 tk', .int m u, .int 1 (tk' + 1)] } : Obj) = o from ho] at hr
  refine wpAny_pyIter_range hr (small_one (by decide) (by decide) (by omega) (by omega)) ?_
  have hsz : Builtin.Range.rangeSize 0 m 1 = ((m.toNat : Nat) : Int) := by rw [rangeSize_one]; split <;> omega
  rw [hsz]
  refine hQ.push _ (k.trans k1) l (I'.keeps k1) rfl (It.range r2.hd _ m.toNat) (fun _ e => ?_) ?_
  · show IsRangeIter _ _ _ _ 1
    have e0 : (((m.toNat : Nat) : Int) - ((0 : Nat) : Int)) = ((m.toNat : Nat) : Int) := by omega
    rw [e0]
    exact e
  · simp [upTo]; omega
theorem two_fresh {h' : Heap} : ∀ b ∈ [h'.objs.size + 1, h'.objs.size], h'.get? b = Option.none := fun b hb => by
  cases q : h'.get? b with
  | none => rfl
  | some o =>
    have := Heap.lt_size q
    rcases List.mem_cons.mp hb with rfl | hb
    · exact absurd this (Nat.not_lt.mpr (Nat.le_succ _))
    · rw [List.mem_singleton] at hb
      subst hb
      exact absurd this (Nat.lt_irrefl _)
theorem iter_enum {gp p : Pos} {a : Expr} {ts : List Expr} {tk : Nat} {tp' : Pos} (S : Snd c ft R n) (tp : Top1 c ft) (e1 : Env1 c f) (r2 : Room2 A n) (I : Inv c f T own loc s.heap) {vs : List V} (hg : globN f.sc (Str.ofString "enumerate") = true) (h1 : val R f.sc a loc = some (.list vs, loc')) (hm : small vs.length = true) (Q : Value → Shared → Prop) (E : Value → Shared → Prop) (hQ : ItK c f A (.Tuple ts tk tp') T own loc' s (enumFrom 0 vs) Q) :
    wpAny (model c.prog c.w) A (eval (.Call (.Name (Str.ofString "enumerate") gp) [a] [] p) f.env) (fun x s₁ => wpAny (model c.prog c.w) A (pyIter x) Q E s₁) E s := by
  rw [arm_eval_Call_Name']
  refine wpAny_bind (load_built (b := "enumerate") e1 tp I (globN_kind hg) (by decide) ?_)
  have p0 : (backTo p (starEach [a] f.env)).any (·.1) = false := by rw [starEach_cons (val_star S h1)]; rfl
  refine callWith_of (P := fun _ => True) (by show (_ || false) = false; rw [p0]; rfl) (fun h _ => keeper_built (b := "enumerate") (by decide) h) (args_of_vals rfl p0 ?_)
  refine wpAny_items_cons ?_ (starEach_cons (val_star S h1))
  refine val_ok S e1 r2 I h1 _ E fun x h' tk' own' k l I' r => ?_
  refine wpAny_items_nil ⟨trivial, ?_⟩
  obtain ⟨ax, xs, m, rfl, hma, ex, rs⟩ := rep_list r
  refine call_enumerate_1 ex fun h'' he hit hsz k2 => ?_
  refine wpAny_pyIter_enum he ?_
  have lv : ∀ b ∈ [h'.objs.size + 1, h'.objs.size], ∃ o, h''.get? b = some o := fun b hb => by
    rcases List.mem_cons.mp hb with rfl | hb
    · exact ⟨_, he⟩
    · rw [List.mem_singleton] at hb
      subst hb
      obtain ⟨o, e, _⟩ := hit
      exact ⟨o, e⟩
  obtain ⟨J, lJ⟩ := iter_push I' k2 two_fresh lv
  refine hQ _ h'' _ own' _ _ (k.trans k2) l J (fun b hb => none_of_keep k (two_fresh b hb)) (It.enum r2.hd _ _ _ (Nat.succ_ne_self _) vs xs) ⟨⟨_, he⟩, hit, ⟨m, (lJ _ _ hma ex).1⟩, (lJ _ _ hma ex).2, rs.later lJ⟩ ?_
  rw [enumFrom_length]; exact small_le hm
theorem iter_items {ap p : Pos} {x : Str} {xp : Pos} {ts : List Expr} {tk : Nat} {tp' : Pos} (S : Snd c ft R n) (e1 : Env1 c f) (r2 : Room2 A n) (I : Inv c f T own loc s.heap) {es : List (Int × V)} (hline : (ap.endLine == p.line) = true) (h1 : val R f.sc (.Name x xp) loc = some (.dict es, loc')) (hm : small es.length = true) (Q : Value → Shared → Prop) (E : Value → Shared → Prop) (hQ : ItK c f A (.Tuple ts tk tp') T own loc' s (es.map fun e => .tup [.int e.1, e.2]) Q) :
    wpAny (model c.prog c.w) A (eval (.Call (.Attribute (.Name x xp) (Str.ofString "items") ap) [] [] p) f.env) (fun x s₁ => wpAny (model c.prog c.w) A (pyIter x) Q E s₁) E s := by
  refine wpAny_Call_method_lateS rfl rfl hline ?_
  refine val_ok S e1 r2 I h1 _ E fun x h' tk' own' k l I' r => ?_
  obtain ⟨d, kvs, rfl, hmd, ld, dd, re⟩ := ref_of_kindless r
  refine ⟨"dict", "dict.items", PySem.F.plainAttrs_dict, PySem.F.slot_dict_items, PySem.F.type_dict_items, dd.typeIs, dd.mapOf.noDict, ?_⟩
  refine Calls.callWith_builtin rfl (evalArgs_nil3 ?_)
  refine call_meetsIn PySem.F.slot_dict_items dd.typeIs PySem.F.entry_dict_items (PySem.F.args_dict_items_1 _) (meets_dict_items (intKind c.prog c.w) d ld) ⟨⟨kvs, dd⟩, ?_⟩
  generalize ho : ({ cls := .type "dict_items", data := .fields #[.ref d] } : Obj) = o
  have hf : o.isFreed = false := ho ▸ rfl
  have k1 := KeepAll.push h' o
  obtain ⟨ep, hat⟩ := dd.dictAt
  have hat1 : (h'.push o).DictAt (intKind c.prog c.w) d kvs ep := hat.keep k1
  refine wpAny_pyIter_items (s := { s with heap := h'.push o, toks := tk' }) ⟨_, Heap.get?_push_size _ hf, by subst ho; rfl, by subst ho; rfl⟩ hat1 ?_
  have D1 : DictAt1 c d es kvs ep (f.M T own') h' := ⟨hat, hmd, re⟩
  exact hQ.push _ (k.trans k1) l (I'.keeps k1) rfl (It.items r2.hd _ d es kvs ep) (fun lJ e => ⟨⟨.none, .none, e⟩, (D1.later (k1.later _)).later lJ⟩) (by rw [List.length_map]; exact small_le hm)
theorem iter_values {ap p : Pos} {x : Str} {xp : Pos} (S : Snd c ft R n) (e1 : Env1 c f) (r2 : Room2 A n) (I : Inv c f T own loc s.heap) {es : List (Int × V)} (hline : (ap.endLine == p.line) = true) (h1 : val R f.sc (.Name x xp) loc = some (.dict es, loc')) (hm : small es.length = true) (Q : Value → Shared → Prop) (E : Value → Shared → Prop) (hQ : ItK c f A t T own loc' s (es.map (·.2)) Q) :
    wpAny (model c.prog c.w) A (eval (.Call (.Attribute (.Name x xp) (Str.ofString "values") ap) [] [] p) f.env) (fun x s₁ => wpAny (model c.prog c.w) A (pyIter x) Q E s₁) E s := by
  refine wpAny_Call_method_lateS rfl rfl hline ?_
  refine val_ok S e1 r2 I h1 _ E fun x h' tk' own' k l I' r => ?_
  obtain ⟨d, kvs, rfl, hmd, ld, dd, re⟩ := ref_of_kindless r
  refine ⟨"dict", "dict.values", PySem.F.plainAttrs_dict, PySem.F.slot_dict_values, PySem.F.type_dict_values, dd.typeIs, dd.mapOf.noDict, ?_⟩
  refine Calls.callWith_builtin rfl (evalArgs_nil3 ?_)
  refine call_meetsIn PySem.F.slot_dict_values dd.typeIs PySem.F.entry_dict_values (PySem.F.args_dict_values_1 _) (meets_dict_values (intKind c.prog c.w) d ld) ⟨⟨kvs, dd⟩, ?_⟩
  generalize ho : ({ cls := .type "dict_values", data := .fields #[.ref d] } : Obj) = o
  have hf : o.isFreed = false := ho ▸ rfl
  have k1 := KeepAll.push h' o
  obtain ⟨ep, hat⟩ := dd.dictAt
  have hat1 : (h'.push o).DictAt (intKind c.prog c.w) d kvs ep := hat.keep k1
  refine wpAny_pyIter_values (s := { s with heap := h'.push o, toks := tk' }) ⟨_, Heap.get?_push_size _ hf, by subst ho; rfl, by subst ho; rfl⟩ hat1 ?_
  have D1 : DictAt1 c d es kvs ep (f.M T own') h' := ⟨hat, hmd, re⟩
  exact hQ.push _ (k.trans k1) l (I'.keeps k1) rfl (It.values r2.hd _ d es kvs ep) (fun lJ e => ⟨⟨_, e, rfl, rfl⟩, (D1.later (k1.later _)).later lJ⟩) (by rw [List.length_map]; exact small_le hm)
theorem iter_plain {w : V} (S : Snd c ft R n) (e1 : Env1 c f) (r2 : Room2 A n) (I : Inv c f T own loc s.heap) {items : List V} (h1 : val R f.sc e loc = some (w, loc')) (h2 : plainItems w = some items) (hm : items.length ≤ 100000) (Q : Value → Shared → Prop) (E : Value → Shared → Prop) (hQ : ItK c f A t T own loc' s items Q) :
    wpAny (model c.prog c.w) A (eval e f.env) (fun x s₁ => wpAny (model c.prog c.w) A (pyIter x) Q E s₁) E s := by
  refine val_ok S e1 r2 I h1 _ E fun x h' tk' own' k l I' r => ?_
  clear h1
  cases w with
  | tup ws =>
    obtain rfl := some1 h2
    obtain ⟨ax, xs, m, rfl, hma, ex, rs⟩ := rep_tup r
    refine wpAny_pyIter_tuple (tup_obj ex) ?_
    exact hQ.push _ k l I' rfl (It.tup r2.hd _ ax ws xs) (fun lJ e => ⟨⟨_, e, rfl, rfl⟩, ⟨m, (lJ _ _ hma ex).1⟩, (lJ _ _ hma ex).2, rs.later lJ⟩) hm
  | list ws =>
    obtain rfl := some1 h2
    obtain ⟨ax, xs, m, rfl, hma, ex, rs⟩ := rep_list r
    refine wpAny_pyIter_list (list_obj ex) ?_
    exact hQ.push _ k l I' rfl (It.list r2.hd _ ax ws xs) (fun lJ e => ⟨⟨_, e, rfl, rfl⟩, ⟨m, (lJ _ _ hma ex).1⟩, (lJ _ _ hma ex).2, rs.later lJ⟩) hm
  | dict es =>
    obtain rfl := some1 h2
    obtain ⟨d, kvs, rfl, hmd, ld, dd, re⟩ := ref_of_kindless r
    obtain ⟨ep, hat⟩ := dd.dictAt
    refine wpAny_pyIter_dict ld hat ?_
    have D1 : DictAt1 c d _ kvs ep (f.M T own') h' := ⟨hat, hmd, re⟩
    exact hQ.push _ k l I' rfl (It.keys r2.hd _ d _ kvs ep) (fun lJ e => ⟨⟨_, e, rfl, rfl⟩, D1.later lJ⟩) hm
  | _ => exact no h2
theorem ItK.of {items items' : List V} {l2 : Loc} {Q : Value → Shared → Prop} (h : some (items', l2) = some (items, loc')) (hQ : ItK c f A t T own loc' s items Q) : ItK c f A t T own l2 s items' Q := by cases h; exact hQ
theorem tgt_tuple {t : Expr} (h : (match t with | .Tuple _ _ _ => true | _ => false) = true) : ∃ ts k p, t = .Tuple ts k p := by
  cases t with
  | Tuple ts k p => exact ⟨ts, k, p, rfl⟩
  | _ => exact absurd h Bool.false_ne_true
theorem iter_ok (S : Snd c ft R n) (tp : Top1 c ft) (e1 : Env1 c f) (r2 : Room2 A n) (I : Inv c f T own loc s.heap) {items : List V} (h : iter R f.sc e loc = some (items, loc')) (ht : tgtOk f.sc e t = true) (Q : Value → Shared → Prop) (E : Value → Shared → Prop) (hQ : ItK c f A t T own loc' s items Q) :
    wpAny (model c.prog c.w) A (eval e f.env) (fun x s₁ => wpAny (model c.prog c.w) A (pyIter x) Q E s₁) E s := by
  have sh := itShape f.sc e
  unfold iter at h
  unfold tgtOk at ht
  generalize itKind f.sc e = k at h sh ht
  cases k with
  | range =>
    obtain ⟨g, gp, a, p, rfl, hg, rfl⟩ := sh
    obtain ⟨w, l1, h1, h⟩ := bs2 h
    obtain ⟨m, rfl, h⟩ := inv_int h
    obtain ⟨hm, h⟩ := if1 h
    rw [Bool.and_eq_true, decide_eq_true_eq, decide_eq_true_eq] at hm
    exact iter_range S tp e1 r2 I hg h1 hm Q E (.of h hQ)
  | enum =>
    obtain ⟨g, gp, a, p, rfl, hg, rfl⟩ := sh
    obtain ⟨w, l1, h1, h⟩ := bs2 h
    obtain ⟨vs, rfl, h⟩ := inv_list h
    obtain ⟨hm, h⟩ := if1 h
    obtain ⟨ts, tk, tp', rfl⟩ := tgt_tuple ht
    exact iter_enum S tp e1 r2 I hg h1 hm Q E (.of h hQ)
  | items =>
    obtain ⟨x, xp, m, ap, p, rfl, hline, rfl⟩ := sh
    obtain ⟨w, l1, h1, h⟩ := bs2 h
    obtain ⟨es, rfl, h⟩ := inv_dict h
    obtain ⟨hm, h⟩ := if1 h
    obtain ⟨ts, tk, tp', rfl⟩ := tgt_tuple ht
    exact iter_items S e1 r2 I hline h1 hm Q E (.of h hQ)
  | values =>
    obtain ⟨x, xp, m, ap, p, rfl, hline, rfl⟩ := sh
    obtain ⟨w, l1, h1, h⟩ := bs2 h
    obtain ⟨es, rfl, h⟩ := inv_dict h
    obtain ⟨hm, h⟩ := if1 h
    exact iter_values S e1 r2 I hline h1 hm Q E (.of h hQ)
  | plain =>
    obtain ⟨w, l1, h1, h⟩ := bs2 h
    obtain ⟨vs, h2, h⟩ := bs1 h
    obtain ⟨hm, h⟩ := if1 h
    exact iter_plain S e1 r2 I h1 h2 (small_le hm) Q E (.of h hQ)
end
end Mine
end
/-! Sto -/
section
set_option maxRecDepth 100000
set_option linter.unusedVariables false
namespace Mine
open PySem PySem.W PyProof.Rows

section
variable {prog : Program} {w : World} {A : Around} {E : Value → Shared → Prop} {s : Shared}
theorem draw_list {it t : Addr} {items : Array Value} (hne : t ≠ it) : ∀ (n i : Nat) (s : Shared) (Q : List Value → Shared → Prop), s.heap.IsListIter it t i → s.heap.IsList t items → i + n ≤ items.size →
    (∀ h', h'.IsListIter it t (i + n) → Heap.SameBut it s.heap h' → Q ((items.toList.drop i).take n) { s with heap := h' }) → wpAny (model prog w) A (draw (.ref it) n) Q E s
  | 0, i, s, Q, hit, _, _, hQ => by
    show wpAny _ _ (pure []) Q E s
    exact wpAny_pure (by simpa using hQ s.heap hit (Heap.SameBut.refl ..))
  | n + 1, i, s, Q, hit, ht, hle, hQ => by
    have hlt : i < items.size := by omega
    show wpAny _ _ (pyNext (.ref it) >>= _) Q E s
    refine wpAny_bind (wpAny_pyNext_list_item hit ht (x := items[i]) (by simp [hlt]) fun h₁ hit₁ hs₁ => ?_)
    refine wpAny_bind (wpAny_holding (draw_list hne n (i + 1) _ _ hit₁ (ht.extBut hs₁.extBut hne) (by omega) fun h₂ hit₂ hs₂ => wpAny_pure ?_))
    have hd : items.toList.drop i = items[i] :: items.toList.drop (i + 1) := by simp [List.drop_eq_getElem_cons, hlt]
    have := hQ h₂ (by rw [show i + (n + 1) = i + 1 + n by omega]; exact hit₂) (hs₁.trans hs₂)
    rw [hd, List.take_succ_cons] at this
    exact this

theorem unpackItems_list {t : Addr} {items : Array Value} {Q : List Value → Shared → Prop} (hh : A.handled = none) (ht : s.heap.IsList t items)
    (hQ : ∀ h', Heap.ExtBut s.heap.objs.size s.heap h' → Q items.toList { s with heap := h' }) : wpAny (model prog w) A (unpackItems (.ref t) items.size none) Q E s := by
  have hlt : t ≠ s.heap.objs.size := by obtain ⟨o, ho, _⟩ := ht; exact Nat.ne_of_lt (Heap.lt_size ho)
  unfold unpackItems
  refine wpAny_bind ?_
  · unfold notIterableAtAll
    refine wpAny_bind (wpAny_specialOf ht.typeIs slot_list_iter.lookup ?_)
    refine wpAny_pure ?_
    simp only [Bool.false_eq_true, if_false]
    refine wpAny_bind (wpAny_holding (wpAny_pyIter_list ht ?_))
    refine wpAny_bind (wpAny_holding (draw_list hlt items.size 0 _ _ ⟨_, Heap.get?_push_size _ rfl, rfl, rfl⟩ (ht.push _) (by omega) fun h₁ hit₁ hs₁ => ?_))
    have hall : List.take items.size (List.drop 0 items.toList) = items.toList := by
      rw [List.drop_zero]; exact List.take_of_length_le (by simp)
    rw [hall]
    rw [if_neg (by simp)]
    have ht₁ : h₁.IsList t items := (ht.push _).extBut hs₁.extBut hlt
    refine wpAny_bind (wpAny_holding (wpAny_pyNext_list_end hh hit₁ ht₁ (by simp) fun h₂ he₂ => ?_))
    simp only [Option.isSome_none, Bool.false_eq_true, if_false]
    refine wpAny_pure (hQ h₂ fun b o hb e => he₂ b o hb (hs₁.extBut b o hb (Heap.get?_push_of_some _ e)))
end

theorem ext_keep {h h' : Heap} (x : Heap.ExtBut h.objs.size h h') : KeepAll h h' := fun b o e => x b o (Nat.ne_of_lt (Heap.lt_size e)) e

section
variable {c : Cx} {ft : Str → Option FD} {R : Ev} {n : Nat} {f : Fm} {A : Around} {T : List Addr} {own : Own} {loc loc' : Loc} {s : Shared} {v : V}

theorem Inv.perm {T' : List Addr} {h : Heap} (p : T.Perm T') (I : Inv c f T own loc h) : Inv c f T' own loc h ∧ ∀ a, f.M T' own a ↔ f.M T own a := by
  have hM : ∀ a, f.M T' own a ↔ f.M T own a := fun a => by
    unfold Fm.M Fm.Mu
    rw [p.mem_iff]
  have l : Later h (f.M T own) h (f.M T' own) := fun a o hm e => ⟨e, fun q => hm ((hM a).mp q)⟩
  obtain ⟨m, F, hm⟩ := I.fr
  refine ⟨⟨⟨m, F, fun x v b hg hk => ?_⟩, fun x v b hg hk => ?_, I.cellAt, fun x a e => ⟨(I.ow x a e).1, fun q => (I.ow x a e).2 (p.mem_iff.mpr q)⟩, I.inj, fun a ha => I.tmp a (p.mem_iff.mpr ha), p.nodup_iff.mp I.tnd, I.xl, I.ml, I.mcs, I.xs⟩, hM⟩
  · obtain ⟨xv, hx, hb⟩ := hm x v b hg hk
    exact ⟨xv, hx, hb.later l fun _ a e => ⟨e, fun o e' => e'⟩⟩
  · obtain ⟨hb, kk, xv, h1, hx, h2, h3⟩ := I.cells x v b hg hk
    exact ⟨hb, kk, xv, h1, hx, h2, h3.later l⟩

/-- the frame's names are set anew -/
theorem Inv.set_local {h h' : Heap} {m : Str → Option Value} {x : Str} {xv : Value} {b : Bool} {T' : List Addr} {own' : Own} (I : Inv c f T own loc h) (F : Fr c.base f.env.locals h m)
    (hm : ∀ x v b, getL loc x = some (v, b) → kindAt f.sc x = some .local → BearP c f T own h m x v b) (hn : h'.Ns f.env.locals (fun y => if y = x then some xv else m y)) (hs : Heap.SameBut f.env.locals h h')
    (hx : kindAt f.sc x = some .local) (l : Later h (f.M T own) h' (f.M T' own')) (ho1 : ∀ y a, own' y = some a → (y ≠ x ∧ own y = some a) ∨ (y = x ∧ a ∈ T)) (ho2 : ∀ y a, y ≠ x → own y = some a → own' y = some a)
    (ho3 : ∀ a, own' x = some a → a ∉ T') (hT : ∀ a ∈ T', a ∈ T) (hnd : T'.Nodup) (hb : Bears c f T' own' h' x v b xv) (hl : (loc.lookup x).isSome = true) : Inv c f T' own' (setL loc x (some (v, b))) h' := by
  have keep : ∀ a o, a ≠ f.env.locals → h.get? a = some o → h'.get? a = some o := fun a o ha e => hs.extBut a o ha e
  have lv : ∀ {a}, a ≠ f.env.locals → (∃ o, h.get? a = some o) → ∃ o, h'.get? a = some o := fun ha ⟨o, e⟩ => ⟨o, keep _ o ha e⟩
  have fr : ∀ a, Free1 c f h a → Free1 c f h' a := fun a q => ⟨q.base, lv q.loc q.live, q.loc, q.mc, q.X⟩
  refine ⟨⟨_, F.set hn hs, fun y u d hg hk => ?_⟩, fun y u d hg hk => ?_, fun y hy hk => ?_, fun y a e => ?_, fun y z a e1 e2 => ?_, fun a ha => fr a (I.tmp a (hT a ha)), hnd, I.xl, I.ml, fun a ha => ⟨(I.mcs a ha).1, lv (fun q => I.ml (q ▸ ha)) (I.mcs a ha).2.1, (I.mcs a ha).2.2⟩, fun a ha => lv (fun q => I.xl (q ▸ ha)) (I.xs a ha)⟩
  · rw [getL_setL] at hg
    by_cases hy : y = x
    · subst hy
      rw [if_pos rfl, if_pos hl] at hg
      cases hg
      exact ⟨xv, by simp, hb⟩
    · rw [if_neg hy] at hg
      obtain ⟨zv, hz, hbz⟩ := hm y u d hg hk
      refine ⟨zv, by simp [hy, hz], hbz.later l fun _ a e => ⟨ho2 y a hy e, fun o e' => keep a o (I.ow y a e).1.loc e'⟩⟩
  · rw [getL_setL] at hg
    by_cases hy : y = x
    · subst hy
      rw [hx] at hk
      rcases hk with e | e <;> cases e
    · rw [if_neg hy] at hg
      obtain ⟨hb, kk, xv, h1, hx, ⟨o, h2, h2'⟩, h3⟩ := I.cells y u d hg hk
      refine ⟨hb, kk, xv, h1, hx, ⟨o, keep kk o ?_ h2, h2'⟩, h3.later l⟩
      intro q
      rw [q] at h2
      obtain ⟨o2, _, _, e2, hd2, _⟩ := F.ns
      rw [h2] at e2; cases e2
      rw [h2'] at hd2; cases hd2
  · obtain ⟨kk, v₀, h1, h2, ⟨o, h3, h3'⟩⟩ := I.cellAt y (by rwa [lookup_setL_isSome] at hy) hk
    exact ⟨kk, v₀, h1, h2, o, keep kk o (fun q => I.ml (q ▸ h2)) h3, h3'⟩
  · rcases ho1 y a e with ⟨hy, e'⟩ | ⟨rfl, ha⟩
    · exact ⟨fr a (I.ow y a e').1, fun q => (I.ow y a e').2 (hT a q)⟩
    · exact ⟨fr a (I.tmp a ha), ho3 a e⟩
  · rcases ho1 y a e1 with ⟨hy, e1'⟩ | ⟨rfl, ha⟩
    · rcases ho1 z a e2 with ⟨hz, e2'⟩ | ⟨rfl, ha⟩
      · exact I.inj y z a e1' e2'
      · exact absurd ha (I.ow y a e1').2
    · rcases ho1 z a e2 with ⟨hz, e2'⟩ | ⟨rfl, _⟩
      · exact absurd ha (I.ow z a e2').2
      · rfl

/-- a cell is set anew -/
theorem Inv.set_cell {h h' : Heap} {x : Str} {xv : Value} {k : Addr} (e1 : Env1 c f) (I : Inv c f T own loc h) (hx : kindAt f.sc x = some .cell) (hk : f.env.cells.lookup x = some k) (hmc : k ∈ f.mc) (hc : h'.IsCell k (some xv)) (hs : Heap.SameBut k h h')
    (hr : Rep c h (f.M T own) v xv) (hl : (loc.lookup x).isSome = true) : Inv c f T own (setL loc x (some (v, false))) h' := by
  have keep : ∀ a o, a ≠ k → h.get? a = some o → h'.get? a = some o := fun a o ha e => hs.extBut a o ha e
  have hkl : ∃ o, h'.get? k = some o := let ⟨o, e, _⟩ := hc; ⟨o, e⟩
  have lv : ∀ {a}, (∃ o, h.get? a = some o) → ∃ o, h'.get? a = some o := fun {a} ⟨o, e⟩ => by
    by_cases q : a = k
    · subst q; exact hkl
    · exact ⟨o, keep _ o q e⟩
  have fr : ∀ a, Free1 c f h a → Free1 c f h' a := fun a q => ⟨q.base, lv q.live, q.loc, q.mc, q.X⟩
  have hkM : f.M T own k := .inr (.inr (.inl hmc))
  have l : Later h (f.M T own) h' (f.M T own) := fun a o hm e => ⟨keep a o (fun q => hm (q ▸ hkM)) e, hm⟩
  obtain ⟨m, F, hm⟩ := I.fr
  have hne : f.env.locals ≠ k := fun q => I.ml (q ▸ hmc)
  refine ⟨⟨m, ⟨F.ns.sameBut hs hne, fun b o e => keep b o (fun q => by subst q; rw [(I.mcs b hmc).1] at e; cases e) (F.keep b o e), F.above⟩, fun y u d hg hky => ?_⟩, fun y u d hg hky => ?_, fun y hy hky => ?_, fun y a e => ⟨fr a (I.ow y a e).1, (I.ow y a e).2⟩, I.inj, fun a ha => fr a (I.tmp a ha), I.tnd, I.xl, I.ml, fun a ha => ⟨(I.mcs a ha).1, lv (I.mcs a ha).2.1, (I.mcs a ha).2.2⟩, fun a ha => lv (I.xs a ha)⟩
  · rw [getL_setL] at hg
    by_cases hy : y = x
    · subst hy; rw [hx] at hky; cases hky
    · rw [if_neg hy] at hg
      obtain ⟨zv, hz, hbz⟩ := hm y u d hg hky
      exact ⟨zv, hz, hbz.later l fun _ a e => ⟨e, fun o e' => keep a o (fun q => (I.ow y a e).1.mc (q ▸ hmc)) e'⟩⟩
  · rw [getL_setL] at hg
    by_cases hy : y = x
    · subst hy
      rw [if_pos rfl, if_pos hl] at hg
      cases hg
      exact ⟨rfl, k, xv, hk, .inl hmc, hc, hr.later l⟩
    · rw [if_neg hy] at hg
      obtain ⟨hb, kk, zv, h1, hz, h2, h3⟩ := I.cells y u d hg hky
      exact ⟨hb, kk, zv, h1, hz, h2.sameBut hs (fun q => hy (e1.apart y x k (q ▸ h1) hk)), h3.later l⟩
  · by_cases hyx : y = x
    · subst hyx; exact ⟨k, some xv, hk, hmc, hc⟩
    · obtain ⟨kk, v₀, h1, h2, h3⟩ := I.cellAt y (by rwa [lookup_setL_isSome] at hy) hky
      exact ⟨kk, v₀, h1, h2, h3.sameBut hs (fun q => hyx (e1.apart y x k (q ▸ h1) hk))⟩

/-- only the frame's own names and cells change -/
noncomputable abbrev KeepBut (f : Fm) (h h' : Heap) : Prop := ∀ b o, b ≠ f.env.locals → b ∉ f.mc → h.get? b = some o → h'.get? b = some o
theorem KeepBut.rfl' (f : Fm) (h : Heap) : KeepBut f h h := fun _ _ _ _ e => e
theorem KeepBut.trans {h h' h'' : Heap} (x : KeepBut f h h') (y : KeepBut f h' h'') : KeepBut f h h'' := fun b o h1 h2 e => y b o h1 h2 (x b o h1 h2 e)
theorem KeepBut.of {h h' : Heap} (k : KeepAll h h') : KeepBut f h h' := fun b o _ _ e => k b o e
theorem KeepBut.later {h h' : Heap} {T' : List Addr} {own' : Own} (k : KeepBut f h h') (hs : ∀ a, f.M T' own' a → f.M T own a) : Later h (f.M T own) h' (f.M T' own') := fun a o hm e => ⟨k a o (fun q => hm (.inr (.inl q))) (fun q => hm (.inr (.inr (.inl q)))) e, fun q => hm (hs a q)⟩
theorem KeepBut.tr {h h' : Heap} {T' : List Addr} {own' : Own} (k : KeepBut f h h') (hs : ∀ a, f.Mu T' own' a → f.Mu T own a) : Tr f T own h T' own' h' := fun a o hm e => ⟨k a o (fun q => hm (.inl q)) (fun q => hm (.inr (.inl q))) e, fun q => hm (hs a q)⟩
theorem M_of_Mu {T' : List Addr} {own' : Own} (hs : ∀ a, f.Mu T' own' a → f.Mu T own a) : ∀ a, f.M T' own' a → f.M T own a := fun a h => h.elim .inl fun h => .inr (hs a h)

theorem hp_of (e1 : Env1 c f) : (f.env.scope.kind == .class || (f.env.scope.kind == .module && f.env.locals != f.env.globals)) = false := by rw [e1.kind]; rfl

theorem putN_cases {sc : Scope} {x : Str} {b : Bool} (h : putN sc x v b loc = some loc') : (loc.lookup x).isSome = true ∧ ((kindAt sc x = some .local ∧ loc' = setL loc x (some (v, b))) ∨ (kindAt sc x = some .cell ∧ loc' = setL loc x (some (v, false)))) := by
  unfold putN at h
  split at h
  · rename_i hl
    split at h
    · rename_i hk; cases h; exact ⟨hl, .inl ⟨hk, rfl⟩⟩
    · rename_i hk; cases h; exact ⟨hl, .inr ⟨hk, rfl⟩⟩
    · cases h
  · cases h

/-- a value of which nothing is owned is stored -/
theorem store_plain {x : Str} {xv : Value} {b : Bool} (e1 : Env1 c f) (I : Inv c f T own loc s.heap) (r : Rep c s.heap (f.M T own) v xv) (h : putN f.sc x v b loc = some loc') (hb : b = false ∨ kindAt f.sc x = some .cell) (Q : Unit → Shared → Prop) (E : Value → Shared → Prop)
    (hQ : ∀ h' tk' own', KeepBut f s.heap h' → Less own' own → Inv c f T own' loc' h' → Q () { s with heap := h', toks := tk' }) : wpAny (model c.prog c.w) A (storeName f.env x xv) Q E s := by
  obtain ⟨hl, ⟨hk, rfl⟩ | ⟨hk, rfl⟩⟩ := putN_cases h
  · have hb : b = false := hb.elim id fun q => by rw [hk] at q; cases q
    subst hb
    obtain ⟨m, F, hm⟩ := I.fr
    refine wpAny_storeName_local (e1.loc x hk) F.ns (fun h' hn hs => ?_) (hp_of e1)
    have kb : KeepBut f s.heap h' := fun b o h1 _ e => hs.extBut b o h1 e
    have l : Later s.heap (f.M T own) h' (f.M T (noOwn own x)) := kb.later fun a => Fm.M_sub noOwn_sub
    refine hQ h' _ (noOwn own x) kb noOwn_sub (I.set_local F hm hn hs hk l (fun y a e => .inl ⟨fun q => ?_, noOwn_sub y a e⟩) (fun y a hy e => by unfold noOwn; rw [if_neg hy]; exact e) (fun a e => ?_) (fun _ h => h) I.tnd ?_ hl)
    · unfold noOwn at e; rw [if_pos q] at e; cases e
    · unfold noOwn at e; rw [if_pos rfl] at e; cases e
    · unfold Bears; rw [if_neg (by decide)]; exact r.later l
  · obtain ⟨k, v₀, h1, h2, h3⟩ := I.cellAt x hl hk
    refine wpAny_storeName_cell e1.kind (e1.cell x hk) h1 h3 fun h' hc hs => ?_
    exact hQ h' s.toks own (fun b o _ hm e => hs.extBut b o (fun q => hm (q ▸ h2)) e) (Less.rfl' _) (I.set_cell e1 hk h1 h2 hc hs r hl)

/-- a value that is owned is stored -/
theorem store_own {x : Str} {a : Addr} (e1 : Env1 c f) (I : Inv c f (a :: T) own loc s.heap) (r : Root c s.heap (f.M (a :: T) own) a v) (h : putN f.sc x v true loc = some loc') (Q : Unit → Shared → Prop) (E : Value → Shared → Prop)
    (hQ : ∀ h' tk' own', KeepBut f s.heap h' → (∀ b, f.Mu T own' b → f.Mu (a :: T) own b) → Inv c f T own' loc' h' → Q () { s with heap := h', toks := tk' }) : wpAny (model c.prog c.w) A (storeName f.env x (.ref a)) Q E s := by
  by_cases hc : kindAt f.sc x = some .cell
  · refine store_plain e1 I.drop (r.drop I) h (.inr hc) Q E fun h' tk' own' kb l J => hQ h' tk' own' kb (fun b q => ?_) J
    rcases q with q | q | ⟨x, q⟩ | q
    · exact .inl q
    · exact .inr (.inl q)
    · exact .inr (.inr (.inl ⟨x, l x b q⟩))
    · exact .inr (.inr (.inr (.tail _ q)))
  obtain ⟨hl, ⟨hk, rfl⟩ | ⟨hk, rfl⟩⟩ := putN_cases h

  · obtain ⟨m, F, hm⟩ := I.fr
    refine wpAny_storeName_local (e1.loc x hk) F.ns (fun h' hn hs => ?_) (hp_of e1)
    have kb : KeepBut f s.heap h' := fun b o h1 _ e => hs.extBut b o h1 e
    have hMu : ∀ b, f.Mu T (addOwn own x a) b → f.Mu (a :: T) own b := fun b q => by
      rcases q with q | q | ⟨y, q⟩ | q
      · exact .inl q
      · exact .inr (.inl q)
      · unfold addOwn at q
        split at q
        · cases q; exact .inr (.inr (.inr (.head _)))
        · exact .inr (.inr (.inl ⟨y, q⟩))
      · exact .inr (.inr (.inr (.tail _ q)))
    have l : Later s.heap (f.M (a :: T) own) h' (f.M T (addOwn own x a)) := kb.later (M_of_Mu hMu)
    have hnd := List.nodup_cons.mp I.tnd
    refine hQ h' _ (addOwn own x a) kb hMu (I.set_local F hm hn hs hk l (fun y b e => ?_) (fun y b hy e => by unfold addOwn; rw [if_neg hy]; exact e) (fun b e => ?_) (fun _ h => .tail _ h) hnd.2 ?_ hl)
    · unfold addOwn at e
      split at e
      · rename_i hy; cases e; exact .inr ⟨hy, .head _⟩
      · rename_i hy; exact .inl ⟨hy, e⟩
    · unfold addOwn at e; rw [if_pos rfl] at e; cases e; exact hnd.1
    · unfold Bears; rw [if_pos rfl]
      exact ⟨a, rfl, by unfold addOwn; rw [if_pos rfl], r.later l fun o e => kb a o (I.tmp a (.head _)).loc (I.tmp a (.head _)).mc e⟩
  · exact absurd hk hc

/-- values held, some owned -/
inductive Helds (c : Cx) (h : Heap) (M : Addr → Prop) : List (V × Bool) → List Value → List Addr → Prop
  | nil : Helds c h M [] [] []
  | plain {v x vs xs Ts} : Rep c h M v x → Helds c h M vs xs Ts → Helds c h M ((v, false) :: vs) (x :: xs) Ts
  | owned {v a vs xs Ts} : Root c h M a v → Helds c h M vs xs Ts → Helds c h M ((v, true) :: vs) (.ref a :: xs) (a :: Ts)
theorem Helds.later {h h' : Heap} {M M' : Addr → Prop} (l : Later h M h' M') {vs : List (V × Bool)} {xs : List Value} {Ts : List Addr} (r : Helds c h M vs xs Ts) : (∀ a ∈ Ts, ∀ o, h.get? a = some o → h'.get? a = some o) → Helds c h' M' vs xs Ts := by
  induction r with
  | nil => exact fun _ => .nil
  | plain r _ ih => exact fun k => .plain (r.later l) (ih k)
  | owned r _ ih => exact fun k => .owned (r.later l (k _ (.head _))) (ih fun a ha => k a (.tail _ ha))
theorem Helds.length {h : Heap} {M : Addr → Prop} {vs : List (V × Bool)} {xs : List Value} {Ts : List Addr} (r : Helds c h M vs xs Ts) : xs.length = vs.length := by
  induction r with
  | nil => rfl
  | plain _ _ ih => exact congrArg (· + 1) ih
  | owned _ _ ih => exact congrArg (· + 1) ih
theorem Helds.append {h : Heap} {M : Addr → Prop} {vs us : List (V × Bool)} {xs ys : List Value} {Ts Us : List Addr} (q : Helds c h M vs xs Ts) (r : Helds c h M us ys Us) : Helds c h M (vs ++ us) (xs ++ ys) (Ts ++ Us) := by
  induction q with
  | nil => exact r
  | plain a _ ih => exact .plain a ih
  | owned a _ ih => exact .owned a ih
theorem Helds.reverse {h : Heap} {M : Addr → Prop} {vs : List (V × Bool)} {xs : List Value} {Ts : List Addr} (q : Helds c h M vs xs Ts) : Helds c h M vs.reverse xs.reverse Ts.reverse := by
  induction q with
  | nil => exact .nil
  | plain a _ ih =>
    have := ih.append (.plain a .nil)
    rw [List.append_nil] at this
    rw [List.reverse_cons, List.reverse_cons]
    exact this
  | owned a _ ih =>
    rw [List.reverse_cons, List.reverse_cons, List.reverse_cons]
    exact ih.append (.owned a .nil)
theorem Reps.helds {h : Heap} {M : Addr → Prop} {vs : List V} : ∀ {xs : List Value}, Reps c h M vs xs → Helds c h M (vs.map fun v => (v, false)) xs [] := by
  induction vs with
  | nil => intro xs r; cases r; exact .nil
  | cons v vs ih => intro xs r; cases r with | cons a r => exact .plain a (ih r)

/-- values are stored under names, one after the other -/
theorem stores_ok (e1 : Env1 c f) (ts : List Expr) (tf : Expr → Value → Sem Unit) (htf : ∀ x p, .Name x p ∈ ts → ∀ (xv : Value) (s : Shared) (Q : Unit → Shared → Prop) (E : Value → Shared → Prop), wpAny (model c.prog c.w) A (storeName f.env x xv) Q E s → wpAny (model c.prog c.w) A (tf (.Name x p) xv) Q E s) :
    ∀ {vs : List (V × Bool)} {xs : List Value} {Ts : List Addr} {own : Own} {loc : Loc} {s : Shared}, Inv c f (Ts ++ T) own loc s.heap → Helds c s.heap (f.M (Ts ++ T) own) vs xs Ts → putNs f.sc ts vs loc = some loc' → ∀ (Q : Unit → Shared → Prop) (E : Value → Shared → Prop),
      (∀ h' tk' own', KeepBut f s.heap h' → (∀ b, f.Mu T own' b → f.Mu (Ts ++ T) own b) → Inv c f T own' loc' h' → Q () { s with heap := h', toks := tk' }) → wpAny (model c.prog c.w) A (assignInOrder (ts.map tf) xs) Q E s := by
  induction ts with
  | nil =>
    intro vs xs Ts own loc s I hs h Q E hQ
    cases vs with
    | nil =>
      obtain rfl := some1 h
      cases hs
      exact wpAny_pure (hQ s.heap s.toks own (KeepBut.rfl' _ _) (fun _ h => h) I)
    | cons v vs => exact no h
  | cons t ts ih =>
    intro vs xs Ts own loc s I hs h Q E hQ
    have ih := @ih (fun x p hm => htf x p (.tail _ hm))
    obtain ⟨x, p, v, b, vs', l1, rfl, rfl, h1, h2⟩ := putNs_cons h
    clear h
    · cases hs with
      | plain r hs =>
        refine assignInOrder_cons (htf x p (.head _) _ _ _ _ ?_)
        refine store_plain e1 I r h1 (.inl rfl) _ E fun h' tk' own' kb l J => ?_
        have hMu : ∀ b, f.Mu (Ts ++ T) own' b → f.Mu (Ts ++ T) own b := fun b => Fm.Mu_sub l
        refine ih (s := { s with heap := h', toks := tk' }) J (hs.later (kb.later (M_of_Mu hMu)) fun a ha o e => ?_) h2 Q E fun h'' tk'' own'' kb2 l2 J2 => ?_
        · have q := I.tmp a (List.mem_append_left _ ha)
          exact kb a o q.loc q.mc e
        · exact hQ h'' tk'' own'' (kb.trans kb2) (fun b q => hMu b (l2 b q)) J2
      | owned r hs =>
        rename_i a xs Ts
        refine assignInOrder_cons (htf x p (.head _) _ _ _ _ ?_)
        refine store_own (T := Ts ++ T) e1 I r h1 _ E fun h' tk' own' kb hMu J => ?_
        refine ih (s := { s with heap := h', toks := tk' }) J (hs.later (kb.later (M_of_Mu hMu)) fun a' ha o e => ?_) h2 Q E fun h'' tk'' own'' kb2 l2 J2 => ?_
        · have q := I.tmp a' (List.mem_append_left _ (.tail _ ha))
          exact kb a' o q.loc q.mc e
        · exact hQ h'' tk'' own'' (kb.trans kb2) (fun b q => hMu b (l2 b q)) J2

/-! names that differ may be stored in any order -/
theorem setL_comm : ∀ (loc : Loc) {x y : Str} (p q : Option (V × Bool)), x ≠ y → setL (setL loc x p) y q = setL (setL loc y q) x p
  | [], x, y, p, q, h => rfl
  | (z, r) :: t, x, y, p, q, h => by
    by_cases hx : z = x
    · subst hx
      have hy : (z == y) = false := by simpa using h
      simp [setL, hy]
    · have hx' : (z == x) = false := by simpa using hx
      by_cases hy : z = y
      · subst hy; simp [setL, hx']
      · have hy' : (z == y) = false := by simpa using hy
        simp [setL, hx', hy', setL_comm t p q h]
/-- how a name of the kind holds -/
noncomputable def kw (sc : Scope) (x : Str) (b : Bool) : Option Bool := match kindAt sc x with
  | some .local => some b
  | some .cell => some false
  | _ => Option.none
theorem putN_eq {sc : Scope} {x : Str} {b : Bool} {l : Loc} : putN sc x v b l = if ((l.lookup x).isSome && (kw sc x b).isSome) = true then some (setL l x (some (v, (kw sc x b).getD false))) else Option.none := by
  unfold putN kw
  cases (l.lookup x).isSome with
  | false => rfl
  | true =>
    cases kindAt sc x with
    | none => rfl
    | some k => cases k <;> rfl
theorem bind_comm {p q : Loc → Bool} {F G : Loc → Loc} (hp : ∀ l, p (G l) = p l) (hq : ∀ l, q (F l) = q l) (hc : ∀ l, G (F l) = F (G l)) (l : Loc) :
    ((if p l = true then some (F l) else Option.none).bind fun l => if q l = true then some (G l) else Option.none) = (if q l = true then some (G l) else Option.none).bind fun l => if p l = true then some (F l) else Option.none := by
  cases h1 : p l with
  | false =>
    cases h2 : q l with
    | false => rfl
    | true =>
      show Option.none = if p (G l) = true then some (F (G l)) else Option.none
      rw [hp, h1]; rfl
  | true =>
    show (if q (F l) = true then some (G (F l)) else Option.none) = _
    rw [hq]
    cases h2 : q l with
    | false => rfl
    | true =>
      show some (G (F l)) = if p (G l) = true then some (F (G l)) else Option.none
      rw [hp, h1, hc]; rfl
theorem putN_comm {sc : Scope} {x y : Str} {u : V} {b d : Bool} {l : Loc} (h : x ≠ y) : (putN sc x v b l).bind (putN sc y u d) = (putN sc y u d l).bind (putN sc x v b) := by
  have e : ∀ (x : Str) (v : V) (b : Bool), putN sc x v b = fun l => if ((l.lookup x).isSome && (kw sc x b).isSome) = true then some (setL l x (some (v, (kw sc x b).getD false))) else Option.none := fun x v b => funext fun l => putN_eq
  rw [e x v b, e y u d]
  exact bind_comm (p := fun l => (l.lookup x).isSome && (kw sc x b).isSome) (q := fun l => (l.lookup y).isSome && (kw sc y d).isSome) (F := fun l => setL l x (some (v, (kw sc x b).getD false))) (G := fun l => setL l y (some (u, (kw sc y d).getD false))) (fun l => by rw [lookup_setL_isSome]) (fun l => by rw [lookup_setL_isSome]) (fun l => setL_comm l _ _ h) l
theorem putNs_append {sc : Scope} : ∀ {ts ts' : List Expr} {vs vs' : List (V × Bool)} {l : Loc}, ts.length = vs.length → putNs sc (ts ++ ts') (vs ++ vs') l = (putNs sc ts vs l).bind (putNs sc ts' vs')
  | [], ts', [], vs', l, _ => rfl
  | t :: ts, ts', (v, b) :: vs, vs', l, h => by
    cases t with
    | Name x p =>
      show (putN sc x v b l).bind _ = ((putN sc x v b l).bind _).bind _
      rw [Option.bind_assoc]
      congr 1
      funext l'
      exact putNs_append (Nat.succ.inj h)
    | _ => rfl
  | [], _, _ :: _, _, _, h => nomatch h
  | _ :: _, _, [], _, _, h => nomatch h
theorem putN_putNs {sc : Scope} {x : Str} {b : Bool} : ∀ {ts : List Expr} {vs : List (V × Bool)} {l : Loc}, (ts.map nameOf).all Option.isSome = true → x ∉ ts.filterMap nameOf → (putN sc x v b l).bind (putNs sc ts vs) = (putNs sc ts vs l).bind (putN sc x v b)
  | [], [], l, _, _ => by
    show (putN sc x v b l).bind some = putN sc x v b l
    simp
  | [], _ :: _, l, _, _ => by
    show (putN sc x v b l).bind (fun _ => Option.none) = Option.none
    simp
  | t :: ts, vs, l, ha, hn => by
    obtain ⟨y, p, rfl, ha'⟩ := names_cons ha
    cases vs with
    | nil =>
      show (putN sc x v b l).bind (fun _ => Option.none) = Option.none
      simp
    | cons w vs =>
      obtain ⟨w, d⟩ := w
      rw [show (Expr.Name y p :: ts).filterMap nameOf = y :: ts.filterMap nameOf from rfl, List.mem_cons, not_or] at hn
      show (putN sc x v b l).bind (fun l => (putN sc y w d l).bind (putNs sc ts vs)) = ((putN sc y w d l).bind (putNs sc ts vs)).bind (putN sc x v b)
      rw [← Option.bind_assoc, putN_comm hn.1, Option.bind_assoc, Option.bind_assoc]
      congr 1
      funext l'
      exact putN_putNs ha' hn.2
theorem putNs_reverse {sc : Scope} : ∀ {ts : List Expr} {vs : List (V × Bool)} {l : Loc}, ts.length = vs.length → (ts.map nameOf).all Option.isSome = true → (ts.filterMap nameOf).Nodup → putNs sc ts.reverse vs.reverse l = putNs sc ts vs l
  | [], [], l, _, _, _ => rfl
  | t :: ts, (v, b) :: vs, l, hl, ha, hn => by
    obtain ⟨x, p, rfl, ha'⟩ := names_cons ha
    rw [show (Expr.Name x p :: ts).filterMap nameOf = x :: ts.filterMap nameOf from rfl, List.nodup_cons] at hn
    have hl' : ts.length = vs.length := by simpa using hl
    rw [List.reverse_cons, List.reverse_cons, putNs_append (by simpa using hl'), putNs_reverse hl' ha' hn.2]
    show (putNs sc ts vs l).bind (fun l => (putN sc x v b l).bind some) = (putN sc x v b l).bind (putNs sc ts vs)
    rw [putN_putNs ha' hn.1]
    congr 1
    funext l'
    simp
  | [], _ :: _, _, h, _, _ => by simp at h
  | _ :: _, [], _, h, _, _ => by simp at h
end
end Mine
end
/-! For -/
section
set_option maxRecDepth 100000
set_option linter.unusedVariables false
namespace Mine
open PySem PySem.W PyProof.Rows

section
variable {c : Cx} {ft : Str → Option FD} {R : Ev} {n : Nat} {f : Fm} {A : Around} {T : List Addr} {own : Own} {loc loc' : Loc} {s : Shared} {v : V}

theorem putNs_names {sc : Scope} : ∀ {ts : List Expr} {vs : List (V × Bool)} {l l' : Loc}, putNs sc ts vs l = some l' → ts.length = vs.length ∧ ∀ env, assignEach ts env = ts.map fun t => (false, assign t env)
  | [], [], l, l', _ => ⟨rfl, fun _ => rfl⟩
  | t :: ts, w :: vs, l, l', h => by
    obtain ⟨x, p, w', b, vs', l1, rfl, e, h1, h2⟩ := putNs_cons h
    obtain ⟨_, rfl⟩ := List.cons.inj e
    obtain ⟨i1, i2⟩ := putNs_names h2
    exact ⟨by simp [i1], fun env => by
      show (false, _) :: assignEach ts env = _
      rw [i2]; rfl⟩
  | [], _ :: _, _, _, h => no h
  | t :: _, [], _, _, h => by
    obtain ⟨_, _, _, _, _, _, _, e, _⟩ := putNs_cons h
    cases e

/-- a value is assigned to a loop's target -/
theorem target_ok {t : Expr} {x : Value} (hh : A.handled = none) (e1 : Env1 c f) (I : Inv c f T own loc s.heap) (r : Rep c s.heap (f.M T own) v x) (h : target f.sc t v loc = some loc') (Q : Unit → Shared → Prop) (E : Value → Shared → Prop)
    (hQ : ∀ h' tk' own', KeepBut f s.heap h' → (∀ b, f.Mu T own' b → f.Mu T own b) → Inv c f T own' loc' h' → Q () { s with heap := h', toks := tk' }) : wpAny (model c.prog c.w) A (assign t f.env x) Q E s := by
  cases t with
  | Name y p => exact wpAny_assign_Name (store_plain e1 I r h (.inl rfl) Q E fun h' tk' own' kb l J => hQ h' tk' own' kb (fun b => Fm.Mu_sub l) J)
  | Tuple ts m p =>
    cases v with
    | tup vs =>
      obtain ⟨a, xs, k, rfl, hm, ex, rs⟩ := rep_tup r
      obtain ⟨n1, n2⟩ := putNs_names h
      have hx := rs.length
      rw [List.length_map] at n1
      refine wpAny_assign_Tuple hh (tup_obj ex) (by rw [n2, List.length_map, n1, List.size_toArray, hx]) (by rw [n2]; simp) fun h' he => ?_
      have k := ext_keep he
      rw [n2, List.map_map]
      refine stores_ok (T := T) (Ts := []) (s := { s with heap := h' }) e1 ts (fun t => assign t f.env) (fun x p _ xv s Q E hq => wpAny_assign_Name hq) (I.keeps k) (rs.later (k.later _)).helds h Q E fun h'' tk'' own'' kb l J => ?_
      exact hQ h'' tk'' own'' ((KeepBut.of k).trans kb) l J
    | _ => exact no h
  | _ => exact no h

theorem folded_of {sc : Scope} {e : Expr} {env : Env} {r : List V × Loc} (S : Snd c ft R n) (h : iter R sc e loc = some r) : ∀ x, foldedSetIterable e env x = pure x := by
  intro x
  cases e with
  | Set a k p =>
    have e : iter R sc (.Set a k p) loc = Option.none := by
      show ((R.ev sc (.Set a k p) loc).map _ >>= _) = Option.none
      rw [S.noSet]; rfl
    rw [e] at h
    exact no h
  | _ => rfl

theorem Env1.handled (e : Env1 c f) : True := trivial

/-- between two laps of a for -/
inductive ForI (c : Cx) (f : Fm) (wr : List Addr) (St : Nat → (Addr → Prop) → Heap → Prop) (F : V → Loc → Option (Fl × Loc)) (items : List V) (r : Fl × Loc) (own₀ : Own) (s₀ : Shared) (m : Nat) (s' : Shared) : Prop
  | mk (i : Nat) (h : Heap) (tk : Tok) (own : Own) (loc : Loc) : m = items.length - i → i ≤ items.length → s' = { s₀ with heap := h, toks := tk } → Inv c (f.addX (· ∈ wr)) [] own loc h → St i ((f.addX (· ∈ wr)).M [] own) h → Tr f [] own₀ s₀.heap [] own h → forL F (items.drop i) loc = some r → ForI c f wr St F items r own₀ s₀ m s'
/-- the laps of a for -/
theorem laps_ok {t : Expr} {body : List Stmt} {Ia : Addr} {wr : List Addr} {items : List V} {St : Nat → (Addr → Prop) → Heap → Prop} {own₀ : Own} {fl : Fl} {s₀ : Shared} (S : Snd c ft R n) (e1 : Env1 c f) (r2 : Room2 A n)
    (it : It c A t Ia wr items St) (hfresh : ∀ b ∈ wr, s₀.heap.get? b = Option.none) (hbase : KeepAll c.base s₀.heap) (hdis : ∀ a, a ∈ wr → ¬ f.X a)
    {Q : Flow → Shared → Prop} {RR : Result → Shared → Prop} (hRR : ∀ fl s', Q fl s' → RR (.ok fl) s')
    (q1 : fl = .next → ∀ h' tk' own', Tr f [] own₀ s₀.heap [] own' h' → Inv c f [] own' loc' h' → Q .next { s₀ with heap := h', toks := tk' })
    (q2 : ∀ v, fl = .ret v false → ∀ x h' tk' own', Tr f [] own₀ s₀.heap [] own' h' → Inv c f [] own' loc' h' → Rep c h' (f.M [] own') v x → Q (.ret x) { s₀ with heap := h', toks := tk' })
    (q3 : ∀ v, fl = .ret v true → ∀ a h' tk' own', Tr f [] own₀ s₀.heap [a] own' h' → Inv c f [a] own' loc' h' → Root c h' (f.M [a] own') a v → Q (.ret (.ref a)) { s₀ with heap := h', toks := tk' })
    {h₁ : Heap} {tk₁ : Nat} {own₁ : Own} {loc₁ : Loc} (I₁ : Inv c (f.addX (· ∈ wr)) [] own₁ loc₁ h₁) (st₁ : St 0 ((f.addX (· ∈ wr)).M [] own₁) h₁) (tr₁ : Tr f [] own₀ s₀.heap [] own₁ h₁)
    (hf : forL (fun v loc => do
        let loc ← target f.sc t v loc
        R.execs f.sc body loc) items loc₁ = some (fl, loc')) : codeAny (model c.prog c.w) A (.forLoop t (.ref Ia) body [] f.env) RR { s₀ with heap := h₁, toks := tk₁ } := by
  have e1' := e1.addX (· ∈ wr)
  have hb : ∀ a o, c.base.get? a = some o → ¬ a ∈ wr := fun a o e q => by
    have := hbase a o e
    rw [hfresh a q] at this; cases this
  have hwM : ∀ {own : Own}, ∀ b ∈ wr, (f.addX (· ∈ wr)).M [] own b := fun b hb => .inl (.inr hb)
  have hfc : ∀ a ∈ (f.addX (· ∈ wr)).fc, ¬ a ∈ wr := fun a ha q => hdis a q (e1.fcx a ha)
  obtain ⟨F, hF⟩ : ∃ F : V → Loc → Option (Fl × Loc), F = fun v loc => target f.sc t v loc >>= R.execs f.sc body := ⟨_, rfl⟩
  obtain ⟨P, hP⟩ : ∃ P, P = ForI c f wr St F items (fl, loc') own₀ s₀ := ⟨_, rfl⟩
  have mkP : ∀ m s', ForI c f wr St F items (fl, loc') own₀ s₀ m s' → P m s' := fun m s' h => by rw [hP]; exact h
  obtain ⟨EE, hE⟩ : ∃ EE, EE = notedBy (model c.prog c.w) A f.env fun e s' => RR (.error e) s' := ⟨_, rfl⟩
  have hf : forL F items loc₁ = some (fl, loc') := by rw [hF]; exact hf
  refine codeAny_forLoop_any P ?_ items.length (mkP _ _ ⟨0, h₁, tk₁, own₁, loc₁, by simp, Nat.zero_le _, rfl, I₁, st₁, tr₁, by simpa using hf⟩)
  rw [← hE]
  intro m s' hPm
  rw [hP] at hPm
  obtain ⟨i, h, tk, own, loc, rfl, hi, rfl, I, st, tr, hf⟩ := hPm
  clear hP
  rcases Nat.lt_or_ge i items.length with hlt | hge
  · obtain ⟨v, hv⟩ : ∃ v, items[i]? = some v := ⟨items[i], by simp [hlt]⟩
    have hd : items.drop i = v :: items.drop (i + 1) := by
      rw [List.drop_eq_getElem_cons hlt]
      rw [List.getElem?_eq_getElem hlt] at hv
      cases hv; rfl
    rw [hd] at hf
    rw [forL_c] at hf
    refine wpAny_mono (it.item i v _ _ (fun x s₁' => wpAny (model c.prog c.w) A (assign t f.env x) (fun _ s₂ => wpAny (model c.prog c.w) A (execs body f.env) (fun f' s₃ => match f' with
            | .next | .cont => ∃ m, m < items.length - i ∧ P m s₃
            | .brk => RR (.ok .next) s₃
            | .ret v => RR (.ok (.ret v)) s₃) EE s₂) EE s₁')
      EE hv st hwM (fun _ => I.m_live) fun x h' tk' k st' rx => ?_) (fun r s₁ hr => ?_) fun _ _ e => e
    · have lw : ∀ a, a ∈ wr → ∃ o, h'.get? a = some o := it.live _ _ _ st'
      have I' := I.touch e1' (Y := (· ∈ wr)) (fun a q => .inr q) hfc hb k lw
      have tr' : Tr f [] own₀ s₀.heap [] own h' := fun a o hm e => ⟨k a o (fun q => by rw [hfresh a q] at e; cases e) (tr a o hm e).1, (tr a o hm e).2⟩
      cases ht : target f.sc t v loc with
      | none =>
        have e : F v loc = none := by rw [hF]; show (target f.sc t v loc >>= _) = _; rw [ht]; rfl
        rw [e] at hf; exact no hf
      | some l1 =>
        have e : F v loc = R.execs f.sc body l1 := by rw [hF]; show (target f.sc t v loc >>= _) = _; rw [ht]; rfl
        rw [e] at hf
        refine target_ok (f := f.addX (· ∈ wr)) (s := { s₀ with heap := h', toks := tk' }) r2.hd e1' I' rx ht _ _ fun h2 tk2 own2 kb l2 I2 => ?_
        have tr2 : Tr f [] own₀ s₀.heap [] own2 h2 := tr'.trans (KeepBut.tr (f := f) kb l2)
        have l2' : Later h' ((f.addX (· ∈ wr)).M [] own) h2 ((f.addX (· ∈ wr)).M [] own2) := kb.later (M_of_Mu l2)
        have st2 := it.frame _ _ _ _ _ st' l2' fun b hb o e => kb b o (fun q => I'.xl (q ▸ .inr hb)) (fun q => (I'.mcs b q).2.2 (.inr hb)) e
        cases hx : R.execs f.sc body l1 with
        | none => rw [hx] at hf; simp at hf
        | some p =>
          obtain ⟨fl1, l3⟩ := p
          rw [hx] at hf
          refine S.execs (f := f.addX (· ∈ wr)) (s := { s₀ with heap := h2, toks := tk2 }) e1' r2 I2 hx _ _ (fun e h3 tk3 own3 tr3 I3 => ?_) (fun w e x h3 tk3 own3 tr3 I3 r3 => ?_) (fun w e a h3 tk3 own3 tr3 I3 r3 => ?_)
          · subst e
            simp only at hf
            have st3 := it.frame _ _ _ _ _ st2 tr3.later fun b hb o e => (tr3 b o (fun q => by
              rcases q with q | q | ⟨y, q⟩ | q
              · exact I2.xl (q ▸ .inr hb)
              · exact (I2.mcs b q).2.2 (.inr hb)
              · exact (I2.ow y b q).1.X (.inr hb)
              · cases q) e).1
            exact ⟨items.length - (i + 1), by omega, mkP _ _ ⟨i + 1, h3, tk3, own3, l3, rfl, hlt, rfl, I3, st3, tr2.trans tr3, hf⟩⟩
          · subst e
            cases hf
            exact hRR _ _ (q2 w rfl x h3 tk3 own3 (tr2.trans tr3) (I3.subX e1 hdis hb fun _ _ _ e => e) (r3.later (later_subX fun _ _ _ e => e)))
          · subst e
            cases hf
            exact hRR _ _ (q3 w rfl a h3 tk3 own3 (tr2.trans tr3) (I3.subX e1 hdis hb fun _ _ _ e => e) (r3.later (later_subX fun _ _ _ e => e) fun _ e => e))
    · obtain ⟨x, rfl, hx⟩ := hr
      exact hx
  · have hin : i = items.length := Nat.le_antisymm hi hge
    subst hin
    rw [List.drop_length] at hf
    obtain ⟨rfl, rfl⟩ := some2 hf
    refine it.done _ _ _ _ st fun h' tk' k => ?_
    refine wpAny_execs_nil (hRR _ _ ?_)
    refine q1 rfl h' tk' own (fun a o hm e => ⟨k a o (fun q => by rw [hfresh a q] at e; cases e) (tr a o hm e).1, (tr a o hm e).2⟩) (I.subX e1 hdis hb k)

theorem exec_forW {t it : Expr} {body : List Stmt} {pos : Pos} {items : List V} {l1 : Loc} {fl : Fl} (S : Snd c ft R n) (tp : Top1 c ft) (e1 : Env1 c f) (r2 : Room2 A n) (I : Inv c f [] own loc s.heap) (ht : tgtOk f.sc it t = true) (h1 : iter R f.sc it loc = some (items, l1))
    (h2 : forL (fun v loc => do
        let loc ← target f.sc t v loc
        R.execs f.sc body loc) items l1 = some (fl, loc')) : ExOk c f A own (exec (.For t it body [] pos) f.env) fl loc' s := by
  intro Q E q1 q2 q3
  refine wpAny_For ?_ (folded_of S h1)
  refine iter_ok (t := t) S tp e1 r2 I h1 ht _ E fun Ia h' tk' own' wr St k l J hfresh itr st hlen => ?_
  have hdis : ∀ a, a ∈ wr → ¬ f.X a := fun a ha q => by
    obtain ⟨o, e⟩ := I.xs a q
    rw [hfresh a ha] at e; cases e
  exact laps_ok S e1 r2 itr hfresh I.keep hdis (fun _ _ h => h) q1 q2 q3 J st (Tr.of k l) h2
end
end Mine
end
/-! Cmp1 -/
section
set_option maxRecDepth 100000
set_option linter.unusedVariables false
namespace Mine
open PySem PySem.W PyProof.Rows

/-- what a lap of a comprehension does behind its tests -/
noncomputable def emitAt (elt : Expr) (G : List Comprehension) (scope : Scope) (pos : Pos) (d : Nat) (acc : Value) (env : Env) : Sem Unit :=
  match G[d + 1]? with
  | some g' => do
    let x ← eval g'.iter env
    standAt g'.iter.pos
    let x ← if g'.is_async != 0 then foldedIterable g'.iter x else foldedSetIterable g'.iter env x
    let _ ← runOwn (.compStart (.ListComp elt G scope pos) (d + 1) (← holding [x] (if g'.is_async != 0 then asyncIter x else pyIter x)) acc env) env
  | none => do let _ ← call (.builtin "list.append") [acc, ← eval elt env]

noncomputable def testsOf (ifs : List Expr) (env : Env) : Sem Bool := forIn ifs true fun c r => if r = true then do let ok ← isTrue c env (eval c env); pure (ForInStep.yield ok) else pure (ForInStep.yield r)

theorem compTurn_at (elt : Expr) (G : List Comprehension) (scope : Scope) (pos : Pos) (d : Nat) (g : Comprehension) (it acc : Value) (env : Env) (hg : G[d]? = some g) (ha : (g.is_async != 0) = false) :
    compTurn (.ListComp elt G scope pos) d it acc env = (standAt g.iter.pos >>= fun _ => pyNext it >>= fun r => match r with
      | none => pure (.done .next)
      | some v => letOwnedTupleGo g.target it v >>= fun _ => assign g.target env v >>= fun _ => testsOf g.ifs env >>= fun ok =>
        if ok = true then emitAt elt G scope pos d acc env >>= fun _ => again (.compLoop (.ListComp elt G scope pos) d it acc env) else again (.compLoop (.ListComp elt G scope pos) d it acc env)) := by
  unfold compTurn
  dsimp only
  rw [hg]
  dsimp only
  rw [ha]
  simp only [Bool.false_eq_true, if_false]
  unfold emitAt testsOf
  congr 1
  funext _
  congr 1
  funext r
  cases r with
  | none => rfl
  | some v =>
    dsimp only
    congr 1
    funext _
    congr 1
    funext _
    congr 1
    funext ok
    cases ok with
    | false => rfl
    | true =>
      simp only [if_true]
      cases G[d + 1]? with
      | none => simp only [bind_assoc] <;> rfl
      | some g' => cases q : (g'.is_async != 0) <;> simp [q, bind_assoc]

section
variable {prog : Program} {w : World} {A : Around} {E : Value → Shared → Prop} {R : Result → Shared → Prop} {s : Shared}

theorem codeAny_compLoop_at {elt : Expr} {G : List Comprehension} {scope : Scope} {pos : Pos} {d : Nat} {g : Comprehension} {it acc : Value} {env : Env} (hg : G[d]? = some g) (ha : (g.is_async != 0) = false) (I : Nat → Shared → Prop)
    (turn : ∀ n s, I n s → wpAny (model prog w) A (pyNext it) (fun r s₁ => match r with
      | none => R (.ok .next) s₁
      | some v => wpAny (model prog w) A (letOwnedTupleGo g.target it v) (fun _ s₁' => wpAny (model prog w) A (assign g.target env v) (fun _ s₂ =>
          wpAny (model prog w) A (testsOf g.ifs env) (fun ok s₃ =>
            if ok = true then wpAny (model prog w) A (emitAt elt G scope pos d acc env) (fun _ s₅ => ∃ m, m < n ∧ I m s₅) (notedBy (model prog w) A env fun e s' => R (.error e) s') s₃
            else ∃ m, m < n ∧ I m s₃) (notedBy (model prog w) A env fun e s' => R (.error e) s') s₂) (notedBy (model prog w) A env fun e s' => R (.error e) s') s₁') (notedBy (model prog w) A env fun e s' => R (.error e) s') s₁) (notedBy (model prog w) A env fun e s' => R (.error e) s') s)
    (n : Nat) (h : I n s) : codeAny (model prog w) A (.compLoop (.ListComp elt G scope pos) d it acc env) R s := by
  refine codeAny_loop rfl I (fun n s hI => ?_) n h
  show wpAny _ A ((compTurn (.ListComp elt G scope pos) d it acc env).onRaise (fun x => do noteFrame x env; theTreesLotGoes x)) _ _ s
  refine wpAny_noted ?_
  rw [compTurn_at elt G scope pos d g it acc env hg ha]
  refine wpAny_bind (wpAny_standAt (wpAny_bind (wpAny_mono (turn n s hI) (fun r s₁ h₁ => ?_) fun _ _ h' => h')))
  cases r with
  | none => exact wpAny_pure h₁
  | some v =>
    refine wpAny_bind (wpAny_mono h₁ (fun _ s₁' h₁' => ?_) fun _ _ h' => h')
    refine wpAny_bind (wpAny_mono h₁' (fun _ s₂ h₂ => wpAny_bind (wpAny_mono h₂ (fun ok s₃ h₃ => ?_) fun _ _ h' => h')) fun _ _ h' => h')
    cases ok with
    | false => exact wpAny_pure ⟨rfl, h₃⟩
    | true => exact wpAny_bind (wpAny_mono h₃ (fun _ s₅ h₅ => wpAny_pure ⟨rfl, h₅⟩) fun _ _ h' => h')

theorem codeAny_compStart_at {elt : Expr} {G : List Comprehension} {scope : Scope} {pos : Pos} {d : Nat} {g : Comprehension} {it acc : Value} {env : Env} (hg : G[d]? = some g) (ha : (g.is_async != 0) = false)
    (h0 : codeAny (model prog w) A (.compLoop (.ListComp elt G scope pos) d it acc env) R s)
    (h : wpAny (model prog w) A (pyIter it) (fun it' s' => codeAny (model prog w) A (.compLoop (.ListComp elt G scope pos) d it' acc env) R s')
      (notedBy (model prog w) A env fun x s' => R (.error x) s') s) :
    codeAny (model prog w) A (.compStart (.ListComp elt G scope pos) d it acc env) R s := by
  refine codeAny_of_tree ?_
  show wpAny _ _ ((compStart (.ListComp elt G scope pos) d it acc env).onRaise (fun x => do noteFrame x env; standAt theWindowsPlace)) _ _ s
  refine wpAny_notedAt ?_
  unfold compStart
  have e : (clausesOf (.ListComp elt G scope pos))[d]? = some g := hg
  simp only [e, Option.elim_some, ha, Bool.false_eq_true, if_false]
  show wpAny _ _ (ask >>= _) _ _ s
  refine wpAny_bind (wpAny_askSetting (wpAny_ite ?_))
  split
  · first
      | exact wpAny_bind (wpAny_pure (wpAny_pure (And.intro rfl h0)))
      | exact wpAny_pure (And.intro rfl h0)
  · first
      | exact wpAny_bind (wpAny_rule (wpAny_bind (wpAny_standAt (wpAny_bind (wpAny_mono h (fun it' s' h' => wpAny_pure (And.intro rfl h')) fun _ _ x => x)))))
      | (refine wpAny_bind (wpAny_rule ?_); refine wpAny_bind (wpAny_standAt ?_); exact (wpAny_bind (wpAny_mono h (fun it' s' h' => wpAny_pure (And.intro rfl h')) fun _ _ x => x)))
end
end Mine
end
/-! Cmp2 -/
section
set_option maxRecDepth 100000
set_option linter.unusedVariables false
namespace Mine
open PySem PySem.W PyProof.Rows

section
variable {c : Cx} {ft : Str → Option FD} {R : Ev} {n : Nat} {f : Fm} {A : Around} {T : List Addr} {own : Own} {loc loc' : Loc} {s : Shared} {v : V}

theorem tests_false {env : Env} : ∀ (ifs : List Expr) {M : Model} {Q : Bool → Shared → Prop} {E : Value → Shared → Prop}, Q false s →
    wpAny M A (forIn ifs false fun c r => if r = true then do let ok ← isTrue c env (eval c env); pure (ForInStep.yield ok) else pure (ForInStep.yield r)) Q E s
  | [], _, _, _, h => by rw [List.forIn_nil]; exact wpAny_pure h
  | e :: r, _, _, _, h => by
    rw [List.forIn_cons]
    simp only [Bool.false_eq_true, if_false]
    exact wpAny_bind (wpAny_pure (tests_false r h))

theorem tests_ok (S : Snd c ft R n) (e1 : Env1 c f) (r2 : Room2 A n) (ifs : List Expr) : ∀ {b : Bool} {own : Own} {loc : Loc} {s : Shared}, Inv c f T own loc s.heap → tests R f.sc ifs loc = some (b, loc') → TstOk c f A T own loc' (testsOf ifs f.env) b s := by
  induction ifs with
  | nil =>
    intro b own loc s I h Q E hQ
    obtain ⟨rfl, rfl⟩ := some2 h
    unfold testsOf
    rw [List.forIn_nil]
    exact wpAny_pure (hQ s.heap s.toks own (KeepAll.rfl' _) (Less.rfl' _) I)
  | cons e r ih =>
    intro b own loc s I h Q E hQ
    obtain ⟨t, l1, h1, h2⟩ := bs2 h
    clear h
    unfold testsOf
    rw [List.forIn_cons]
    simp only [if_true]
    refine wpAny_bind (wpAny_bind ?_)
    refine S.tst e1 r2 I h1 _ E fun h' tk' own' k l I' => wpAny_pure ?_
    cases t with
    | true =>
      exact ih (s := { s with heap := h', toks := tk' }) I' h2 Q E fun h'' tk'' own'' k2 l2 I2 => hQ h'' tk'' own'' (k.trans k2) (l2.trans l) I2
    | false =>
      obtain ⟨rfl, rfl⟩ := some2 h2
      exact tests_false r (hQ h' tk' own' k l I')

/-- only the comprehension's own things change -/
noncomputable abbrev KeepC (f : Fm) (D : Addr) (wr : List Addr) (h h' : Heap) : Prop := ∀ b o, b ≠ f.env.locals → b ≠ D → b ∉ wr → h.get? b = some o → h'.get? b = some o

theorem Fm.M_of_Mu2 {own own' : Own} (hs : ∀ a, f.Mu T own' a → f.Mu T own a) : ∀ a, f.M T own' a → f.M T own a := fun a h => h.elim .inl fun h => .inr (hs a h)

theorem KeepC.later {D : Addr} {wr : List Addr} {h h' : Heap} {own own' : Own} (k : KeepC f D wr h h') (hD : f.X D) (hw : ∀ b ∈ wr, f.X b) (hs : ∀ a, f.Mu T own' a → f.Mu T own a) : Later h (f.M T own) h' (f.M T own') :=
  fun a o hm e => ⟨k a o (fun q => hm (.inr (.inl q))) (fun q => hm (.inl (q ▸ hD))) (fun q => hm (.inl (hw a q))) e, fun q => hm (Fm.M_of_Mu2 hs a q)⟩

/-- between two laps -/
inductive LapI (c : Cx) (f : Fm) (D : Addr) (wr : List Addr) (St : Nat → (Addr → Prop) → Heap → Prop) (F : V → Loc → Option (List V × Loc)) (items : List V) (loc' : Loc) (own : Own) (all : List V) (s : Shared) (m : Nat) (s' : Shared) : Prop
  | mk (i : Nat) (hp : Heap) (tk : Tok) (own1 : Own) (loc : Loc) (ys : List Value) (out1 vs1 : List V) : m = items.length - i → i ≤ items.length → s' = { s with heap := hp, toks := tk } → Inv c (f.addX (· ∈ wr)) [] own1 loc hp → St i ((f.addX (· ∈ wr)).M [] own1) hp → KeepC f D wr s.heap hp →
      (∀ a, f.Mu [] own1 a → f.Mu [] own a) → hp.PlainList D (List.toArray ys) → Reps c hp ((f.addX (· ∈ wr)).M [] own1) out1 ys → compL F (items.drop i) loc = some (vs1, loc') → out1 ++ vs1 = all → LapI c f D wr St F items loc' own all s m s'

/-- the laps of a comprehension's clauses -/
theorem clauses_ok {elt : Expr} {G : List Comprehension} {scope : Scope} {pos : Pos} {D : Addr} (S : Snd c ft R n) (tp : Top1 c ft) (hasync : ∀ g ∈ G, (g.is_async != 0) = false) (gens : List Comprehension) :
    ∀ (d : Nat) {f : Fm} {items vs : List V} {loc loc' : Loc} {own : Own} {Ia : Addr} {wr : List Addr} {St : Nat → (Addr → Prop) → Heap → Prop} {t : Expr} {A : Around} {s : Shared} {out : List V} {ys : List Value},
      G.drop d = gens → (∀ g rest, gens = g :: rest → g.target = t) → Env1 c f → Room2 A n → f.mc = [] → compG R f.sc elt gens items loc = some (vs, loc') → It c A t Ia wr items St → Inv c (f.addX (· ∈ wr)) [] own loc s.heap → St 0 ((f.addX (· ∈ wr)).M [] own) s.heap →
      (∀ b ∈ wr, ¬ f.X b) → (∀ b ∈ wr, c.base.get? b = Option.none) → f.X D → D ∉ f.fc → c.base.get? D = Option.none → s.heap.PlainList D ys.toArray → Reps c s.heap ((f.addX (· ∈ wr)).M [] own) out ys → out.length + vs.length ≤ 100000 →
      ∀ (RR : Result → Shared → Prop), (∀ h' tk' own' ys', KeepC f D wr s.heap h' → (∀ a, f.Mu [] own' a → f.Mu [] own a) → Inv c f [] own' loc' h' → h'.PlainList D (List.toArray ys') → Reps c h' (f.M [] own') (out ++ vs) ys' → RR (.ok .next) { s with heap := h', toks := tk' }) →
        codeAny (model c.prog c.w) A (.compLoop (.ListComp elt G scope pos) d (.ref Ia) (.ref D) f.env) RR s := by
  induction gens with
  | nil =>
    intro d f items vs loc loc' own Ia wr St t A s out ys _ _ _ _ _ h
    exact no h
  | cons g rest ih =>
    intro d f items vs loc loc' own Ia wr St t A s out ys hdrop htgt e1 r2 hmc hcomp it I st hdis hwb hDX hDf hDb hD rs hlen RR hR
    have hgt := htgt g rest rfl
    have hgd : G[d]? = some g := by
      have : (G.drop d)[0]? = some g := by rw [hdrop]; rfl
      rwa [List.getElem?_drop] at this
    have hgd1 : G.drop (d + 1) = rest := by
      have : (G.drop d).drop 1 = rest := by rw [hdrop]; rfl
      rwa [List.drop_drop] at this
    have hmem : g ∈ G := List.mem_of_getElem? hgd
    replace hcomp : compL (lapV R (compG R f.sc elt rest) f.sc elt g rest) items loc = some (vs, loc') := hcomp
    have e1' := e1.addX (· ∈ wr)
    have hb : ∀ a o, c.base.get? a = some o → ¬ a ∈ wr := fun a o e q => by rw [hwb a q] at e; cases e
    have hwf : ∀ a ∈ (f.addX (· ∈ wr)).fc, ¬ a ∈ wr := fun a ha q => hdis a q (e1.fcx a ha)
    have hwM : ∀ {own : Own}, ∀ b ∈ wr, (f.addX (· ∈ wr)).M [] own b := fun b hb => .inl (.inr hb)
    have hDM : ∀ {own : Own}, (f.addX (· ∈ wr)).M [] own D := .inl (.inl hDX)
    have hDw : D ∉ wr := fun q => hdis D q hDX
    have hwl : ∀ b ∈ wr, b ≠ f.env.locals := fun b hb q => I.xl (q ▸ .inr hb)
    have hDl : D ≠ f.env.locals := fun q => I.xl (q ▸ .inl hDX)
    obtain ⟨F, hF⟩ : ∃ F, F = lapV R (compG R f.sc elt rest) f.sc elt g rest := ⟨_, rfl⟩
    rw [← hF] at hcomp
    obtain ⟨P, hP⟩ : ∃ P, P = LapI c f D wr St F items loc' own (out ++ vs) s := ⟨_, rfl⟩
    have mkP : ∀ m s', LapI c f D wr St F items loc' own (out ++ vs) s m s' → P m s' := fun m s' h => by rw [hP]; exact h
    obtain ⟨EE, hE⟩ : ∃ EE, EE = notedBy (model c.prog c.w) A f.env fun e s' => RR (.error e) s' := ⟨_, rfl⟩
    refine codeAny_compLoop_at hgd (hasync g hmem) P ?_ items.length
      (mkP _ _ ⟨0, s.heap, s.toks, own, loc, ys, out, vs, by simp, Nat.zero_le _, rfl, I, st, fun _ _ _ _ _ e => e, fun _ h => h, hD, rs, by simpa using hcomp, rfl⟩)
    rw [← hE]
    intro m s' hPm
    rw [hP] at hPm
    obtain ⟨i, hp, tk, own1, loc, ys, out1, vs1, rfl, hi, rfl, I, st, kc, hMu, hD, rs, hc, hout⟩ := hPm
    clear hP
    have hlen1 : out1.length + vs1.length ≤ 100000 := by
      have e := congrArg List.length hout
      simp only [List.length_append] at e
      omega
    rcases Nat.lt_or_ge i items.length with hlt | hge
    · obtain ⟨v, hv⟩ : ∃ v, items[i]? = some v := ⟨items[i], by simp [hlt]⟩
      have hd : items.drop i = v :: items.drop (i + 1) := by
        rw [List.drop_eq_getElem_cons hlt]
        rw [List.getElem?_eq_getElem hlt] at hv
        cases hv; rfl
      rw [hd] at hc
      obtain ⟨a1, lm, hFv, hc⟩ := bs2 hc
      obtain ⟨b1, lz, hcr, he⟩ := bs2 hc
      clear hc
      obtain ⟨rfl, rfl⟩ := some2 he
      rw [hF] at hFv
      obtain ⟨l4, ht, hFv⟩ := bs1 hFv
      obtain ⟨ok, l5, hts, hem⟩ := bs2 hFv
      clear hFv
      refine wpAny_mono (it.item i v _ _ (fun x s₁' => wpAny (model c.prog c.w) A (assign g.target f.env x) (fun _ s₂ =>
          wpAny (model c.prog c.w) A (testsOf g.ifs f.env) (fun ok s₃ =>
            if ok = true then wpAny (model c.prog c.w) A (emitAt elt G scope pos d (.ref D) f.env) (fun _ s₅ => ∃ m, m < items.length - i ∧ P m s₅) EE s₃
            else ∃ m, m < items.length - i ∧ P m s₃)
            EE s₂) EE s₁')
        EE hv st hwM (fun _ => I.m_live) fun x h1 tk1 k st1 rx => ?_) (fun r s₁ hr => ?_) fun _ _ e => e
      · have lw : ∀ a, a ∈ wr → ∃ o, h1.get? a = some o := it.live _ _ _ st1
        have I1 := I.touch e1' (Y := (· ∈ wr)) (fun a q => .inr q) hwf hb k lw
        have lt1 : Later hp ((f.addX (· ∈ wr)).M [] own1) h1 ((f.addX (· ∈ wr)).M [] own1) := keep_later hwM k
        have kc1 : KeepC f D wr s.heap h1 := fun b o q1 q2 q3 e => k b o q3 (kc b o q1 q2 q3 e)
        have hD1 : h1.PlainList D ys.toArray := hD.at fun o e => k D o hDw e
        refine target_ok (f := f.addX (· ∈ wr)) (s := { s with heap := h1, toks := tk1 }) r2.hd e1' I1 rx ht _ _ fun h2 tk2 own2 kb l2 I2 => ?_
        have kb' : ∀ b o, b ≠ f.env.locals → h1.get? b = some o → h2.get? b = some o := fun b o q e => kb b o q (by show b ∉ f.mc; rw [hmc]; exact fun q => nomatch q) e
        have lt2 : Later hp ((f.addX (· ∈ wr)).M [] own1) h2 ((f.addX (· ∈ wr)).M [] own2) := lt1.trans (kb.later (M_of_Mu l2))
        have kc2 : KeepC f D wr s.heap h2 := fun b o q1 q2 q3 e => kb' b o q1 (kc1 b o q1 q2 q3 e)
        have st2 := it.frame _ _ _ _ _ st1 (kb.later (T := []) (M_of_Mu l2)) fun b hb o e => kb' b o (hwl b hb) e
        have hD2 : h2.PlainList D ys.toArray := hD1.at fun o e => kb' D o hDl e
        have hMu2 : ∀ a, f.Mu [] own2 a → f.Mu [] own a := fun a q => hMu a (l2 a q)
        refine tests_ok (f := f.addX (· ∈ wr)) (s := { s with heap := h2, toks := tk2 }) S e1' r2 g.ifs I2 hts _ _ fun h3 tk3 own3 k3 l3 I3 => ?_
        have lt3 : Later hp ((f.addX (· ∈ wr)).M [] own1) h3 ((f.addX (· ∈ wr)).M [] own3) := lt2.trans (later_less k3 l3)
        have kc3 : KeepC f D wr s.heap h3 := fun b o q1 q2 q3 e => k3 b o (kc2 b o q1 q2 q3 e)
        have st3 := it.frame _ _ _ _ _ st2 (later_less (T := []) k3 l3) fun b hb o e => k3 b o e
        have hD3 : h3.PlainList D ys.toArray := hD2.at fun o e => k3 D o e
        have hMu3 : ∀ a, f.Mu [] own3 a → f.Mu [] own a := fun a q => hMu2 a (Fm.Mu_sub l3 q)
        cases ok with
        | false =>
          obtain ⟨rfl, rfl⟩ := some2 hem
          exact ⟨items.length - (i + 1), by omega, mkP _ _ ⟨i + 1, h3, tk3, own3, _, ys, out1, b1, rfl, hlt, rfl, I3, st3, kc3, hMu3, hD3, rs.later lt3, hcr, hout⟩⟩
        | true =>
          replace hem : emitV R (compG R f.sc elt rest) f.sc elt rest l5 = some (a1, lm) := hem
          show wpAny (model c.prog c.w) A (emitAt elt G scope pos d (.ref D) f.env) _ _ _
          unfold emitAt
          unfold emitV at hem
          split at hem
          · have hnone : G[d + 1]? = Option.none := by
              have : (G.drop (d + 1))[0]? = Option.none := by rw [hgd1]; rfl
              rwa [List.getElem?_drop] at this
            rw [hnone]
            dsimp only
            obtain ⟨w, l6, hval, he⟩ := bs2 hem
            obtain ⟨rfl, rfl⟩ := Prod.mk.inj (Option.some.inj he)
            refine wpAny_bind ?_
            refine val_ok (f := f.addX (· ∈ wr)) (s := { s with heap := h3, toks := tk3 }) S e1' r2 I3 hval _ _ fun z h4 tk4 own4 k4 l4 I4 r4 => ?_
            have hD4 : h4.PlainList D ys.toArray := hD3.at fun o e => k4 D o e
            have hys : ys.toArray.size ≤ sizeLine := by
              rw [List.size_toArray, rs.length, sizeLine_eq]
              omega
            refine wpAny_bind (wpAny_list_append_plain (s := { s with heap := h4, toks := tk4 }) (hsz := hys) hD4 fun h5 hl5 hs5 => wpAny_pure ?_)
            have lt4 : Later hp ((f.addX (· ∈ wr)).M [] own1) h4 ((f.addX (· ∈ wr)).M [] own4) := lt3.trans (later_less k4 l4)
            have kD : ∀ b o, ¬ b = D → h4.get? b = some o → h5.get? b = some o := fun b o q e => hs5.extBut b o q e
            have lt5 : Later h4 ((f.addX (· ∈ wr)).M [] own4) h5 ((f.addX (· ∈ wr)).M [] own4) := fun a o hm e => ⟨kD a o (fun q => hm (q ▸ hDM)) e, hm⟩
            have I5 := I4.touch e1' (Y := (· = D)) (fun a q => q ▸ .inl hDX) (fun a ha q => hDf (q ▸ ha)) (fun a o e q => by rw [q, hDb] at e; cases e) kD (fun a q => by subst q; obtain ⟨n, e⟩ := hl5; exact ⟨_, e⟩)
            have st5 := it.frame _ _ _ _ _ (it.frame _ _ _ _ _ st3 (later_less (T := []) k4 l4) fun b hb o e => k4 b o e) lt5 fun b hb o e => kD b o (fun q => hDw (q ▸ hb)) e
            refine ⟨items.length - (i + 1), by omega, mkP _ _ ⟨i + 1, h5, tk4, own4, _, ys ++ [z], out1 ++ [w], b1, rfl, hlt, rfl, I5, st5, fun b o q1 q2 q3 e => kD b o q2 (k4 b o (kc3 b o q1 q2 q3 e)), fun a q => hMu3 a (Fm.Mu_sub l4 q), by simpa using hl5, ?_, hcr, by simpa using hout⟩⟩
            exact ((rs.later lt4).append (.cons r4 .nil)).later lt5
          · rename_i g' rest'
            have hg' : G[d + 1]? = some g' := by
              have : (G.drop (d + 1))[0]? = some g' := by rw [hgd1]; rfl
              rwa [List.getElem?_drop] at this
            have ha' := hasync g' (List.mem_of_getElem? hg')
            rw [hg']
            dsimp only
            split at hem
            · rename_i htg
              obtain ⟨items', l6, hit, hcg⟩ := bs2 hem
              refine wpAny_bind ?_
              refine wpAny_mono (iter_ok (f := f.addX (· ∈ wr)) (t := g'.target) (s := { s with heap := h3, toks := tk3 }) S tp e1' r2 I3 hit htg (fun iv s₄ => wpAny (model c.prog c.w) A (runOwn (.compStart (.ListComp elt G scope pos) (d + 1) iv (.ref D) f.env) f.env) (fun _ s₅ => ∃ m, m < items.length - i ∧ P m s₅) EE s₄) EE
                fun Ia2 h4 tk4 own4 wr2 St2 k4 l4 I4 fresh2 it2 st2' hl4 => ?_) (fun x s₄ h₄ => ?_) fun _ _ e => e
              · refine wpAny_runOwn (h := none) ?_
                have hw2 : ∀ a, a ∈ wr2 → ¬ (f.addX (· ∈ wr)).X a := fun a ha q => by
                  obtain ⟨o, e⟩ := I3.xs a q
                  rw [show h3.get? a = _ from fresh2 a ha] at e; cases e
                have hw2b : ∀ b ∈ wr2, c.base.get? b = Option.none := fun b hb => none_of_keep I3.keep (fresh2 b hb)
                have lt4 : Later h3 ((f.addX (· ∈ wr)).M [] own3) h4 (((f.addX (· ∈ wr)).addX (· ∈ wr2)).M [] own4) := fun a o hm e => ⟨k4 a o e, fun q => (Fm.M_addX_iff.mp q).elim (fun q => hm (Fm.M_sub l4 q)) fun q => by rw [show h3.get? a = _ from fresh2 a q] at e; cases e⟩
                have rs4 : Reps c h4 (((f.addX (· ∈ wr)).addX (· ∈ wr2)).M [] own4) out1 ys := (rs.later lt3).later lt4
                have hcl : out1.length + a1.length ≤ 100000 := by
                  simp only [List.length_append] at hlen1
                  omega
                have inner : ∀ s₅ : Shared, s₅ = { s with heap := h4, toks := tk4 } → codeAny (model c.prog c.w) A (.compLoop (.ListComp elt G scope pos) (d + 1) (.ref Ia2) (.ref D) (f.addX (· ∈ wr)).env)
                    (fun r s' => match r with
                      | .ok f' => ∃ m, m < items.length - i ∧ P m s'
                      | .error e => cameBackBy (model c.prog c.w) A f.env EE e s') s₅ := by
                  rintro s₅ rfl
                  refine ih (d + 1) (f := f.addX (· ∈ wr)) (s := { s with heap := h4, toks := tk4 }) (t := g'.target) hgd1 (fun g2 r2 e => by cases e; rfl) e1' r2 hmc hcg it2 I4 st2' hw2 hw2b (.inl hDX) hDf hDb (hD3.at fun o e => k4 D o e) rs4 hcl _ fun h5 tk5 own5 ys5 kc5 hMu5 I5 hD5 rs5 => ?_
                  have kw5 : ∀ b o, b ≠ f.env.locals → b ≠ D → h3.get? b = some o → h5.get? b = some o := fun b o q1 q2 e => kc5 b o q1 q2 (fun q => by rw [show h3.get? b = _ from fresh2 b q] at e; cases e) (k4 b o e)
                  have lt5 : Later h3 ((f.addX (· ∈ wr)).M [] own3) h5 ((f.addX (· ∈ wr)).M [] own5) := fun a o hm e => ⟨kw5 a o (fun q => hm (.inr (.inl q))) (fun q => hm (q ▸ hDM)) e, fun q => hm (Fm.M_of_Mu2 (fun a q => Fm.Mu_sub l4 (hMu5 a q)) a q)⟩
                  have st5 := it.frame _ _ _ _ _ st3 lt5 fun b hb o e => kw5 b o (hwl b hb) (fun q => hDw (q ▸ hb)) e
                  exact ⟨items.length - (i + 1), by omega, mkP _ _ ⟨i + 1, h5, tk5, own5, _, ys5, out1 ++ a1, b1, rfl, hlt, rfl, I5, st5, fun b o q1 q2 q3 e => kw5 b o q1 q2 (kc3 b o q1 q2 q3 e), fun a q => hMu3 a (Fm.Mu_sub l4 (hMu5 a q)), hD5, rs5, hcr, by simpa using hout⟩⟩
                exact codeAny_compStart_at hg' ha' (inner _ rfl) (it2.self 0 _ _ _ _ st2' (inner _ rfl))
              · refine wpAny_bind (wpAny_standAt ?_)
                rw [ha']
                simp only [Bool.false_eq_true, if_false]
                refine wpAny_bind (wpAny_of_eq (folded_of S hit x) ?_)
                refine wpAny_bind (wpAny_holding (wpAny_mono h₄ (fun iv s₅ h₅ => ?_) fun _ _ e => e))
                exact wpAny_bind (wpAny_mono h₅ (fun _ s₆ h₆ => wpAny_pure h₆) fun _ _ e => e)
            · cases hem
      · obtain ⟨x, rfl, hx⟩ := hr
        rw [← hgt] at hx
        exact hx
    · have hin : i = items.length := Nat.le_antisymm hi hge
      subst hin
      rw [List.drop_length] at hc
      obtain ⟨rfl, rfl⟩ := some2 hc
      refine it.done _ _ _ _ st fun h' tk' k => ?_
      rw [List.append_nil] at hout
      subst hout
      exact hR h' tk' own1 ys (fun b o q1 q2 q3 e => k b o q3 (kc b o q1 q2 q3 e)) hMu (I.subX e1 hdis hb k) (hD.at fun o e => k D o hDw e) (rs.later (later_subX k))
end
end Mine
end
/-! Cmp3 -/
section
set_option maxRecDepth 100000
set_option linter.unusedVariables false
namespace Mine
open PySem PySem.W PyProof.Rows

theorem forIn_yield_fold {α β : Type} (g : β → α → β) : ∀ {l : List α} {f : α → β → Sem (ForInStep β)} (c : β), (∀ x ∈ l, ∀ c, f x c = pure (.yield (g c x))) → forIn l c f = pure (l.foldl g c)
  | [], f, c, _ => by rw [List.forIn_nil]; rfl
  | x :: l, f, c, h => by
    rw [List.forIn_cons, h x List.mem_cons_self, pure_bind]
    exact forIn_yield_fold g (g c x) fun y hy => h y (List.mem_cons_of_mem _ hy)

noncomputable def cellAddr (env : Env) (n : Str) : Addr := (env.cells.lookup n).getD 0
noncomputable def clOf (env : Env) (names : List (Str × NameKind)) : List (Str × Addr) := names.foldl (fun c x => if x.2 == .free then (x.1, cellAddr env x.1) :: c else c) []

theorem closure_eq {scope : Scope} {env : Env} (h : ∀ n, (n, NameKind.free) ∈ scope.names → (env.cells.lookup n).isSome = true) : closureFor scope env = pure (clOf env scope.names) := by
  simp only [closureFor]
  rw [forIn_yield_fold (fun c x => if x.2 == .free then (x.1, cellAddr env x.1) :: c else c) [] (fun x hx c => by
    obtain ⟨n, k⟩ := x
    by_cases hk : k = .free
    · subst hk
      obtain ⟨a, ha⟩ := Option.isSome_iff_exists.mp (h n hx)
      simp only [beq_self_eq_true, if_true]
      unfold cellOf cellAddr
      rw [ha]
      rfl
    · have : (k == NameKind.free) = false := by simpa using hk
      simp only [this, Bool.false_eq_true, if_false])]
  rfl

theorem clOf_mem (env : Env) : ∀ (names : List (Str × NameKind)) (acc : List (Str × Addr)) (p : Str × Addr), p ∈ names.foldl (fun c x => if x.2 == .free then (x.1, cellAddr env x.1) :: c else c) acc ↔ p ∈ acc ∨ ((p.1, NameKind.free) ∈ names ∧ p.2 = cellAddr env p.1)
  | [], acc, p => by simp
  | (n, k) :: r, acc, p => by
    rw [List.foldl_cons, clOf_mem env r]
    by_cases hk : k = .free
    · subst hk
      simp only [beq_self_eq_true, if_true, List.mem_cons, Prod.mk.injEq, and_true]
      constructor
      · rintro ((h | h) | h)
        · subst h; exact .inr ⟨.inl rfl, rfl⟩
        · exact .inl h
        · exact .inr ⟨.inr h.1, h.2⟩
      · rintro (h | ⟨h | h, h2⟩)
        · exact .inl (.inr h)
        · subst h; exact .inl (.inl (Prod.ext rfl h2))
        · exact .inr ⟨h, h2⟩
    · have : (k == NameKind.free) = false := by simpa using hk
      simp only [this, Bool.false_eq_true, if_false, List.mem_cons, Prod.mk.injEq]
      constructor
      · rintro (h | h)
        · exact .inl h
        · exact .inr ⟨.inr h.1, h.2⟩
      · rintro (h | ⟨h | h, h2⟩)
        · exact .inl h
        · exact absurd h.2.symm hk
        · exact .inr ⟨h, h2⟩

theorem lookup_mem {α : Type} : ∀ {l : List (Str × α)} {x : Str} {a : α}, l.lookup x = some a → (x, a) ∈ l
  | (y, b) :: l, x, a, h => by
    rw [List.lookup_cons] at h
    by_cases q : x = y
    · subst q; simp at h; subst h; exact .head _
    · have : (x == y) = false := by simpa using q
      rw [this] at h; exact .tail _ (lookup_mem h)
theorem lookup_some_of_mem {α : Type} : ∀ {l : List (Str × α)} {x : Str} {a : α}, (x, a) ∈ l → ∃ b, l.lookup x = some b
  | (y, b) :: l, x, a, h => by
    rw [List.lookup_cons]
    by_cases q : x = y
    · subst q; exact ⟨b, by simp⟩
    · have e : (x == y) = false := by simpa using q
      rw [e]
      rcases List.mem_cons.mp h with h | h
      · cases h; exact absurd rfl q
      · exact lookup_some_of_mem h

theorem clOf_lookup {env : Env} {names : List (Str × NameKind)} {n : Str} (h : (n, NameKind.free) ∈ names) : (clOf env names).lookup n = some (cellAddr env n) := by
  obtain ⟨b, hb⟩ := lookup_some_of_mem ((clOf_mem env names [] (n, cellAddr env n)).mpr (.inr ⟨h, rfl⟩))
  have := (clOf_mem env names [] (n, b)).mp (lookup_mem hb)
  rcases this with h | ⟨_, h⟩
  · cases h
  · unfold clOf; rw [hb]; exact congrArg some h
theorem clOf_lookup_free {env : Env} {names : List (Str × NameKind)} {n : Str} {a : Addr} (h : (clOf env names).lookup n = some a) : (n, NameKind.free) ∈ names ∧ a = cellAddr env n := by
  rcases (clOf_mem env names [] (n, a)).mp (lookup_mem h) with h | h
  · cases h
  · exact h

theorem lookup_relabel {env : Env} : ∀ {names : List (Str × NameKind)} {x : Str},
    (names.map fun (n, k) => if (k == NameKind.free && env.scope.kind == .function && env.kindOf n == some .cell) then (n, NameKind.cell) else (n, k)).lookup x =
      (names.lookup x).map fun k => if (k == NameKind.free && env.scope.kind == .function && env.kindOf x == some .cell) then NameKind.cell else k
  | [], _ => rfl
  | (n, k) :: r, x => by
    have ih := @lookup_relabel env r x
    show List.lookup x ((if (k == NameKind.free && env.scope.kind == .function && env.kindOf n == some .cell) = true then (n, NameKind.cell) else (n, k)) :: _) = _
    by_cases hx : x = n
    · subst hx
      by_cases hc : (k == NameKind.free && env.scope.kind == .function && env.kindOf x == some .cell) = true
      · rw [if_pos hc, List.lookup_cons, List.lookup_cons]; simp only [beq_self_eq_true, Option.map_some, if_pos hc]
      · rw [if_neg hc, List.lookup_cons, List.lookup_cons]; simp only [beq_self_eq_true, Option.map_some, if_neg hc]
    · have e : (x == n) = false := by simpa using hx
      by_cases hc : (k == NameKind.free && env.scope.kind == .function && env.kindOf n == some .cell) = true
      · rw [if_pos hc]; simp only [List.lookup_cons, e]; exact ih
      · rw [if_neg hc]; simp only [List.lookup_cons, e]; exact ih

theorem getL_cons {n x : Str} {q : Option (V × Bool)} {l : Loc} : getL ((n, q) :: l) x = if x = n then q else getL l x := by
  unfold getL
  rw [List.lookup_cons]
  by_cases h : x = n
  · subst h
    rw [beq_self_eq_true, if_pos rfl]
    cases q <;> rfl
  · rw [show (x == n) = false by simpa using h, if_neg h]
theorem compLoc_get {loc : Loc} {names : List (Str × NameKind)} {x : Str} {v : V} {b : Bool} : getL (compLoc loc names) x = some (v, b) → (x, NameKind.free) ∈ names ∧ getL loc x = some (v, false) ∧ b = false := by
  induction names with
  | nil => exact fun h => no h
  | cons p r ih =>
    obtain ⟨n, k⟩ := p
    intro h
    have step : getL (compLoc loc r) x = some (v, b) → (x, NameKind.free) ∈ (n, k) :: r ∧ getL loc x = some (v, false) ∧ b = false := fun h =>
      let ⟨h1, h2⟩ := ih h
      ⟨.tail _ h1, h2⟩
    cases k with
    | «local» =>
      rw [show compLoc loc ((n, .local) :: r) = (n, Option.none) :: compLoc loc r from rfl, getL_cons] at h
      rcases if2 h with ⟨_, h⟩ | ⟨_, h⟩
      · exact no h
      · exact step h
    | free =>
      rw [show compLoc loc ((n, .free) :: r) = (n, match getL loc n with | some (v, false) => some (v, false) | _ => Option.none) :: compLoc loc r from rfl, getL_cons] at h
      rcases if2 h with ⟨hx, h⟩ | ⟨_, h⟩
      · rw [← hx] at h
        cases hg : getL loc x with
        | none => rw [hg] at h; exact no h
        | some q =>
          obtain ⟨w, d⟩ := q
          rw [hg] at h
          cases d with
          | true => exact no h
          | false =>
            obtain ⟨rfl, rfl⟩ := some2 h
            rw [hx]
            exact ⟨.head _, rfl, rfl⟩
      · exact step h
    | _ => exact step h

section
variable {c : Cx} {ft : Str → Option FD} {R : Ev} {n : Nat} {f : Fm} {A : Around} {T : List Addr} {own : Own} {loc loc' : Loc} {s : Shared} {v : V}

/-- what was set aside is let go, other fresh things are set aside -/
theorem Inv.swapX {h h' : Heap} {Y Z : Addr → Prop} (e1 : Env1 c f) (I : Inv c (f.addX Y) T own loc h) (hd : ∀ a, Y a → ¬ f.X a) (hb : ∀ a o, c.base.get? a = some o → ¬ Y a) (k : ∀ b o, ¬ Y b → h.get? b = some o → h'.get? b = some o)
    (hZ : ∀ a, Z a → h.get? a = Option.none) (lv : ∀ a, Z a → ∃ o, h'.get? a = some o) : Inv c (f.addX Z) T own loc h' := by
  have nZ : ∀ a, (∃ o, h.get? a = some o) → ¬ Z a := fun a ⟨o, e⟩ q => by rw [hZ a q] at e; cases e
  have l : Later h ((f.addX Y).M T own) h' ((f.addX Z).M T own) := fun a o hm e => ⟨k a o (fun q => hm (Fm.M_addX_iff.mpr (.inr q))) e, fun q => (Fm.M_addX_iff.mp q).elim (fun q => hm (Fm.M_addX_iff.mpr (.inl q))) (nZ a ⟨o, e⟩)⟩
  have nY : ∀ a, ¬ (f.addX Y).X a → ¬ Y a := fun a q y => q (.inr y)
  have nX : ∀ a, (∃ o, h.get? a = some o) → ¬ (f.addX Y).X a → ¬ (f.addX Z).X a := fun a hl q y => y.elim (fun y => q (.inl y)) (nZ a hl)
  have fr : ∀ a, Free1 c (f.addX Y) h a → Free1 c (f.addX Z) h' a := fun a q => ⟨q.base, let ⟨o, e⟩ := q.live; ⟨o, k a o (nY a q.X) e⟩, q.loc, q.mc, nX a q.live q.X⟩
  obtain ⟨m, F, hm⟩ := I.fr
  refine ⟨⟨m, ⟨F.ns.at' fun o e => k _ o (nY _ I.xl) e, fun b o e => k b o (hb b o e) (F.keep b o e), F.above⟩, fun x v b hg hk => ?_⟩, fun x v b hg hk => ?_, fun x hx hk => ?_, fun x a e => ⟨fr a (I.ow x a e).1, (I.ow x a e).2⟩, I.inj, fun a ha => fr a (I.tmp a ha), I.tnd, nX _ I.locals_live I.xl, I.ml,
    fun a ha => ⟨(I.mcs a ha).1, let ⟨o, e⟩ := (I.mcs a ha).2.1; ⟨o, k a o (nY a (I.mcs a ha).2.2) e⟩, nX a (I.mcs a ha).2.1 (I.mcs a ha).2.2⟩, fun a ha => ha.elim (fun ha => let ⟨o, e⟩ := I.xs a (.inl ha); ⟨o, k a o (fun y => hd a y ha) e⟩) (lv a)⟩
  · obtain ⟨xv, hx, hb⟩ := hm x v b hg hk
    exact ⟨xv, hx, hb.later l fun _ a e => ⟨e, fun o e' => k a o (nY a (I.ow x a e).1.X) e'⟩⟩
  · obtain ⟨hb, kk, xv, h1, hx, ⟨o, h2, h2'⟩, h3⟩ := I.cells x v b hg hk
    refine ⟨hb, kk, xv, h1, hx, ⟨o, k kk o ?_ h2, h2'⟩, h3.later l⟩
    exact hx.elim (fun q => nY kk (I.mcs kk q).2.2) (fun q y => hd kk y (e1.fcx kk q))
  · obtain ⟨kk, v₀, h1, h2, ⟨o, h3, h3'⟩⟩ := I.cellAt x hx hk
    exact ⟨kk, v₀, h1, h2, o, k kk o (nY kk (I.mcs kk h2).2.2) h3, h3'⟩

noncomputable def compFm (f : Fm) (scope : Scope) (C : Addr) (X : Addr → Prop) : Fm := { sc := scope, env := compEnvC scope (clOf f.env scope.names) C f.env, mc := [], fc := (clOf f.env scope.names).map (·.2), X := X }
noncomputable def noneOwn : Own := fun _ => Option.none

structure CompOk (f : Fm) (scope : Scope) : Prop where
  k1 : scope.kind = .function
  kinds : ∀ n k, (n, k) ∈ scope.names → k = .local ∨ k = .free ∨ k = .globalImplicit
  free : ∀ n, (n, NameKind.free) ∈ scope.names → kindAt f.sc n = some .cell
  look : ∀ n k, (n, k) ∈ scope.names → scope.names.lookup n = some k ∧ (n == Str.ofString "__debug__") = false

theorem compOk_of {scope : Scope} (h : compOk f.sc scope = true) : CompOk f scope := by
  unfold compOk at h
  simp only [Bool.and_eq_true, List.all_eq_true, beq_iff_eq] at h
  obtain ⟨⟨⟨⟨h1, h2⟩, h3⟩, h4⟩, h5⟩ := h
  refine ⟨h1, fun n k hm => ?_, fun n hm => ?_, fun n k hm => ?_⟩
  · have := h3 (n, k) hm
    simp only [Bool.or_eq_true, beq_iff_eq] at this
    rcases this with (h | h) | h
    · exact .inl h
    · exact .inr (.inl h)
    · exact .inr (.inr h)
  · have := h4 (n, .free) hm
    simp only [Bool.or_eq_true, bne_self_eq_false, Bool.false_eq_true, false_or, beq_iff_eq] at this
    exact this
  · have := h5 (n, k) hm
    simp only [Bool.and_eq_true, beq_iff_eq, bne_iff_ne, ne_eq] at this
    exact ⟨this.1, by simpa using this.2⟩

theorem comp_env {scope : Scope} {C : Addr} {X : Addr → Prop} (e1 : Env1 c f) (k : CompOk f scope) (hl : ∀ n, (n, NameKind.free) ∈ scope.names → ∃ a, f.env.cells.lookup n = some a ∧ X a) : Env1 c (compFm f scope C X) := by
  have noCell : ∀ x, kindAt scope x = some .cell → False := fun x h => by
    rcases k.kinds x .cell (lookup_mem h) with h | h | h <;> cases h
  have rl : ∀ x, (compFm f scope C X).env.kindOf x = (kindAt scope x).map fun k => if (k == NameKind.free && f.env.scope.kind == .function && f.env.kindOf x == some .cell) then NameKind.cell else k := fun x => lookup_relabel
  refine ⟨k.k1, e1.glob, e1.built, fun x h => ?_, fun x h => (noCell x h).elim, fun x h => ?_, fun x h => ?_, fun x y a h1 h2 => ?_, k.k1, rfl, fun a ha => ?_, fun x h => ?_⟩
  · rw [rl, show kindAt scope x = some .local from h]; rfl
  · rw [rl, show kindAt scope x = some .free from h]
    have h2 := e1.cell x (k.free x (lookup_mem h))
    simp [e1.kind, h2]
  · rw [rl, show kindAt scope x = some .globalImplicit from h]; rfl
  · obtain ⟨m1, rfl⟩ := clOf_lookup_free h1
    obtain ⟨m2, h2⟩ := clOf_lookup_free h2
    obtain ⟨a1, q1, _⟩ := hl x m1
    obtain ⟨a2, q2, _⟩ := hl y m2
    unfold cellAddr at h2
    rw [q1, q2] at h2
    simp only [Option.getD_some] at h2
    subst h2
    exact e1.apart x y _ q1 q2
  · obtain ⟨p, hp, rfl⟩ := List.mem_map.mp ha
    rcases (clOf_mem f.env scope.names [] p).mp hp with h | ⟨h, h2⟩
    · cases h
    · obtain ⟨a1, q1, hX⟩ := hl p.1 h
      rw [h2]
      unfold cellAddr
      rw [q1]; exact hX
  · obtain ⟨k', hk⟩ := Option.isSome_iff_exists.mp h
    exact (k.look x k' (lookup_mem hk)).2

/-- a comprehension -/
theorem comp_core {elt : Expr} {gens : List Comprehension} {scope : Scope} {pos : Pos} (S : Snd c ft R n) (tp : Top1 c ft) (e1 : Env1 c f) (r2 : Room2 A n) (I : Inv c f T own loc s.heap) (h : listComp R f.sc elt gens scope loc = some (v, loc')) :
    ∃ g rest, gens = g :: rest ∧ (g.is_async != 0) = false ∧ closureFor scope f.env = pure (clOf f.env scope.names) ∧ CompOk f scope ∧ (∀ x, foldedSetIterable g.iter f.env x = pure x) ∧
      ∀ (RR : Value → Addr → Result → Shared → Prop) (E : Value → Shared → Prop), (∀ x h' tk' own' Cl, KeepAll s.heap h' → Less own' own → s.heap.get? Cl = Option.none → (∃ m, h'.Ns Cl m) → Inv c (f.addX (· = Cl)) T own' loc' h' → Rep c h' ((f.addX (· = Cl)).M T own') v x → RR x Cl (.ok .next) { s with heap := h', toks := tk' }) →
        wpAny (model c.prog c.w) A (eval g.iter f.env) (fun x s₁ => wpAny (model c.prog c.w) A (pyIter x) (fun it s₂ => wpAny (model c.prog c.w) A (newList []) (fun acc s₃ =>
          wpAny (model c.prog c.w) A (newFunctionEnv scope f.env.globals (clOf f.env scope.names) [] f.env.qual none .none (some f.env)) (fun cenv s₄ =>
            codeAny (model c.prog c.w) A (.compStart (.ListComp elt gens scope pos) 0 it acc { cenv with scope := relabel scope f.env }) (RR acc cenv.locals) s₄) E s₃) E s₂) E s₁) E s := by
  cases gens with
  | nil => exact no h
  | cons g rest =>
  obtain ⟨hok, h⟩ := if1 h
  simp only [Bool.and_eq_true] at hok
  obtain ⟨⟨⟨hc, htg⟩, has⟩, hfl⟩ := hok
  have K := compOk_of hc
  have hasync : ∀ g' ∈ g :: rest, (g'.is_async != 0) = false := fun g' hg' => by
    have := List.all_eq_true.mp has g' hg'
    simpa using this
  have hfree : ∀ n, (n, NameKind.free) ∈ scope.names → ∃ a v₀, f.env.cells.lookup n = some a ∧ a ∈ f.mc ∧ s.heap.IsCell a v₀ := fun n hn => by
    have := List.all_eq_true.mp hfl (n, .free) hn
    simp only [bne_self_eq_false, Bool.false_or] at this
    obtain ⟨a, v₀, q1, q2, q3⟩ := I.cellAt n this (K.free n hn)
    exact ⟨a, v₀, q1, q2, q3⟩
  obtain ⟨items, lc, hit, h⟩ := bs2 h
  obtain ⟨vs, l2, hcg, h⟩ := bs2 h
  obtain ⟨hsm, h⟩ := if1 h
  obtain ⟨rfl, rfl⟩ := some2 h
  refine ⟨g, rest, rfl, hasync g (.head _), closure_eq fun n hn => by obtain ⟨a, _, q, _⟩ := hfree n hn; rw [q]; rfl, K, folded_of S hit, fun RR E hQ => ?_⟩
  refine iter_ok (t := g.target) S tp e1 r2 I hit htg _ E fun Ia h1 tk1 own1 wr St k1 l1 I1 fresh1 it st1 hl1 => ?_
  refine wpAny_newObj_type (wpAny_newFunctionEnv (fun x hx q => by rcases K.kinds x.1 x.2 hx with h | h | h <;> rw [h] at q <;> cases q) (fun y hy => nomatch hy) (fun h3 hns3 hsb3 => ?_) K.k1)
  dsimp only at hns3 hsb3 ⊢
  generalize hH2 : h1.push { cls := .type "list", dict := none, data := .seq ([] : List Value).toArray } = H2 at hns3 hsb3 ⊢
  -- the new addresses
  have hD1 : h1.get? h1.objs.size = Option.none := none_at_end _
  have hCs : H2.objs.size = h1.objs.size + 1 := by rw [← hH2, Heap.size_push]
  have hC1 : h1.get? H2.objs.size = Option.none := by
    cases q : h1.get? H2.objs.size with
    | none => rfl
    | some o => have := Heap.lt_size q; rw [hCs] at this; exact absurd this (Nat.not_lt.mpr (Nat.le_succ _))
  have hDC : h1.objs.size ≠ H2.objs.size := by rw [hCs]; exact Nat.ne_of_lt (Nat.lt_succ_self _)
  have k13 : KeepAll h1 h3 := fun b o e => hsb3.extBut b o (fun q => by rw [q, hC1] at e; cases e) (Heap.get?_push_of_some _ (hH2 ▸ Heap.get?_push_of_some _ e))
  have hD3 : h3.PlainList h1.objs.size (List.toArray []) := ⟨_, hsb3.extBut _ _ hDC (Heap.get?_push_of_some _ (hH2 ▸ Heap.get?_push_size _ rfl))⟩
  have hlive1 : ∀ a, f.M T own1 a → ∃ o, h1.get? a = some o := fun a q => I1.m_live (Fm.M_addX_iff.mpr (.inl q))
  have hDM : ¬ f.M T own1 h1.objs.size := fun q => by obtain ⟨o, e⟩ := hlive1 _ q; rw [hD1] at e; cases e
  have hCM : ¬ f.M T own1 H2.objs.size := fun q => by obtain ⟨o, e⟩ := hlive1 _ q; rw [hC1] at e; cases e
  have hwl : ∀ b ∈ wr, ∃ o, h1.get? b = some o := fun b hb => I1.xs b (.inr hb)
  have hwM : ∀ b ∈ wr, ¬ f.M T own1 b := fun b hb q => by
    obtain ⟨o, e⟩ := I.m_live (Fm.M_sub l1 q)
    rw [fresh1 b hb] at e; cases e
  have hwD : ∀ b ∈ wr, b ≠ h1.objs.size := fun b hb q => by obtain ⟨o, e⟩ := hwl b hb; rw [q, hD1] at e; cases e
  have hwC : ∀ b ∈ wr, b ≠ H2.objs.size := fun b hb q => by obtain ⟨o, e⟩ := hwl b hb; rw [q, hC1] at e; cases e
  have bn : ∀ a, s.heap.get? a = Option.none → c.base.get? a = Option.none := fun a e => none_of_keep I.keep e
  have bD : c.base.get? h1.objs.size = Option.none := none_of_keep I1.keep hD1
  have bC : c.base.get? H2.objs.size = Option.none := none_of_keep I1.keep hC1
  have bw : ∀ b ∈ wr, c.base.get? b = Option.none := fun b hb => bn b (fresh1 b hb)
  -- the comprehension's frame
  have hX : ∀ n, (n, NameKind.free) ∈ scope.names → ∃ a, f.env.cells.lookup n = some a ∧ (f.M T own1 a ∨ a = h1.objs.size) := fun n hn => by
    obtain ⟨a, _, q, hm, _⟩ := hfree n hn
    exact ⟨a, q, .inl (.inr (.inr (.inl hm)))⟩
  have E1 := comp_env (c := c) (C := H2.objs.size) (X := fun a => f.M T own1 a ∨ a = h1.objs.size) e1 K hX
  have l13 : Later h1 ((f.addX (· ∈ wr)).M T own1) h3 (((compFm f scope H2.objs.size (fun a => f.M T own1 a ∨ a = h1.objs.size)).addX (· ∈ wr)).M [] noneOwn) := fun a o hm e => ⟨k13 a o e, fun q => by
    rcases Fm.M_addX_iff.mp q with q | q
    · rcases q with (q | q) | q | q | ⟨x, q⟩ | q
      · exact hm (Fm.M_addX_iff.mpr (.inl q))
      · rw [q, hD1] at e; cases e
      · rw [show a = H2.objs.size from q, hC1] at e; cases e
      · cases q
      · cases q
      · cases q
    · exact hm (Fm.M_addX_iff.mpr (.inr q))⟩
  obtain ⟨m1, F1, _⟩ := I1.fr
  have I3 : Inv c ((compFm f scope H2.objs.size (fun a => f.M T own1 a ∨ a = h1.objs.size)).addX (· ∈ wr)) [] noneOwn (compLoc lc scope.names) h3 := by
    refine ⟨⟨_, ⟨hns3, fun b o e => k13 b o (I1.keep b o e), ?_⟩, fun x w b hg hk => ?_⟩, fun x w b hg hk => ?_, fun x hx hk => ?_, (fun x a e => (nomatch e)), (fun x y a e => (nomatch e)), (fun a ha => (nomatch ha)), List.nodup_nil, ?_, (fun q => (nomatch q)), (fun a ha => (nomatch ha)), fun a ha => ?_⟩
    · have q := I1.locals_live
      obtain ⟨o, e⟩ := q
      exact Nat.le_trans F1.above (Nat.le_trans (Nat.le_of_lt (Heap.lt_size e)) (by show h1.objs.size ≤ H2.objs.size; rw [hCs]; exact Nat.le_succ _))
    · have hf := (compLoc_get hg).1
      have hk' : kindAt scope x = some .local := hk
      rw [show kindAt scope x = some .free from (K.look x _ hf).1] at hk'
      cases hk'
    · obtain ⟨hf, hg1, rfl⟩ := compLoc_get hg
      obtain ⟨_, kk, xv, q1, q2, q3, q4⟩ := I1.cells x w false hg1 (.inl (K.free x hf))
      refine ⟨rfl, kk, xv, ?_, .inr ?_, q3.keeps k13, q4.later l13⟩
      · show (clOf f.env scope.names).lookup x = some kk
        rw [clOf_lookup hf]
        unfold cellAddr
        rw [show f.env.cells.lookup x = some kk from q1]
        rfl
      · refine List.mem_map.mpr ⟨(x, kk), (clOf_mem f.env scope.names [] _).mpr (.inr ⟨hf, ?_⟩), rfl⟩
        unfold cellAddr
        rw [show f.env.cells.lookup x = some kk from q1]
        rfl
    · rcases K.kinds x .cell (lookup_mem hk) with h | h | h <;> cases h
    · rintro ((q | q) | q)
      · exact hCM q
      · exact hDC q.symm
      · exact hwC _ q rfl
    · rcases ha with (ha | ha) | ha
      · obtain ⟨o, e⟩ := hlive1 a ha
        exact ⟨o, k13 a o e⟩
      · obtain ⟨n, e⟩ := hD3
        exact ⟨_, ha ▸ e⟩
      · obtain ⟨o, e⟩ := hwl a ha
        exact ⟨o, k13 a o e⟩
  have st3 := it.frame _ _ _ _ _ st1 l13 fun b hb o e => k13 b o e
  have inner : ∀ s₅ : Shared, s₅ = { s with heap := h3, toks := tk1 + 0 } → codeAny (model c.prog c.w) A (.compLoop (.ListComp elt (g :: rest) scope pos) 0 (.ref Ia) (.ref h1.objs.size) (compFm f scope H2.objs.size (fun a => f.M T own1 a ∨ a = h1.objs.size)).env) (RR (.ref h1.objs.size) H2.objs.size) s₅ := by
    rintro s₅ rfl
    refine clauses_ok (s := { s with heap := h3, toks := tk1 + 0 }) (out := []) (ys := []) S tp hasync (g :: rest) 0 rfl (fun _ _ e => by cases e; rfl) E1 r2 rfl hcg it I3 st3 (fun b hb q => q.elim (hwM b hb) (hwD b hb)) bw (.inr rfl) (fun q => ?_) bD hD3 .nil (by simpa using small_le hsm) _ fun h' tk' own' ys' kc hMu I' hD' rs' => ?_
    · have := E1.fcx _ q
      obtain ⟨p, hp, hp2⟩ := List.mem_map.mp q
      rcases (clOf_mem f.env scope.names [] p).mp hp with h | ⟨h, h2⟩
      · cases h
      · obtain ⟨a, v₀, q1, q2, _⟩ := hfree p.1 h
        have e : p.2 = a := by rw [h2]; unfold cellAddr; rw [q1]; rfl
        exact hDM (.inr (.inr (.inl (by rw [← hp2, e]; exact q2))))
    · have k3' : ∀ b o, ¬ b ∈ wr → h1.get? b = some o → h'.get? b = some o := fun b o hb e => kc b o (fun q => by rw [show b = H2.objs.size from q, hC1] at e; cases e) (fun q => by rw [q, hD1] at e; cases e) hb (k13 b o e)
      have kAll : KeepAll s.heap h' := fun b o e => k3' b o (fun q => by rw [fresh1 b q] at e; cases e) (k1 b o e)
      obtain ⟨m', F', _⟩ := I'.fr
      have lvC : ∃ o, h'.get? H2.objs.size = some o := I'.locals_live
      have J := I1.swapX (h' := h') (Z := (· = H2.objs.size)) e1 (fun a ha q => hwM a ha (.inl q)) (fun a o e q => by rw [bw a q] at e; cases e) k3' (fun a q => q ▸ hC1) (fun a q => q ▸ lvC)
      refine hQ _ h' tk' own1 H2.objs.size kAll l1 (none_of_keep k1 hC1) ⟨m', F'.ns⟩ J ?_
      obtain ⟨nn, hDo⟩ := hD'
      refine .list (n := nn) (fun q => (Fm.M_addX_iff.mp q).elim hDM hDC) hDo ?_
      refine (show Reps c h' _ vs ys' by simpa using rs').later (fun a o hm e => ⟨e, fun q => hm ?_⟩)
      rcases Fm.M_addX_iff.mp q with q | q
      · exact .inl (.inl q)
      · exact .inr (.inl q)
  exact codeAny_compStart_at (g := g) rfl (hasync g (.head _)) (inner _ rfl) (it.self 0 _ _ _ _ st3 (inner _ rfl))
end
end Mine
end
/-! Stp1 -/
section
set_option maxRecDepth 100000
set_option linter.unusedVariables false
namespace Mine
open PySem PySem.W PyProof.Rows

section
variable {c : Cx} {ft : Str → Option FD} {R : Ev} {n : Nat} {f : Fm} {A : Around} {T : List Addr} {own : Own} {loc loc' : Loc} {s : Shared} {v : V}

theorem async_of {g : Comprehension} {rest : List Comprehension} (h : (g.is_async != 0) = false) : firstAsync (g :: rest) = false := by
  cases g; exact h
theorem iter_of {g : Comprehension} {rest : List Comprehension} {env : Env} : firstIter (g :: rest) env = eval g.iter env := by
  cases g; rfl

theorem ev_listcomp {elt : Expr} {gens : List Comprehension} {scope : Scope} {pos : Pos} (S : Snd c ft R n) (tp : Top1 c ft) (e1 : Env1 c f) (r2 : Room2 A n) (I : Inv c f T own loc s.heap) (h : listComp R f.sc elt gens scope loc = some (v, loc')) :
    ResOk c f A T own loc' (eval (.ListComp elt gens scope pos) f.env) v false s := by
  refine ValOk.res fun Q E hQ => ?_
  obtain ⟨g, rest, rfl, ha, hcl, K, hs, core⟩ := comp_core (pos := pos) S tp e1 r2 I h
  rw [eval_ListComp, async_of ha, iter_of]
  refine wpAny_comprehension_free (use := none) (g := g) (gs := rest) rfl hs hcl K.k1 (fun x hx hk => by have := (K.look x.1 x.2 hx).1; rw [hk] at this; exact this) ?_
  refine core (fun acc C r s' => compPost (model c.prog c.w) A E none Q acc C r s') E fun x h' tk' own' Cl k l hn hm J r => ?_
  obtain ⟨m, hm⟩ := hm
  refine ⟨m, hm, fun h'' hs'' => ?_⟩
  have hd : ∀ a, a = Cl → ¬ f.X a := fun a ha q => by
    obtain ⟨o, e⟩ := I.xs a q
    rw [ha, hn] at e; cases e
  have k2 : ∀ b o, ¬ b = Cl → h'.get? b = some o → h''.get? b = some o := fun b o q e => hs''.extBut b o q e
  refine hQ x h'' tk' own' (fun b o e => k2 b o (fun q => by rw [q, hn] at e; cases e) (k b o e)) l (J.subX e1 hd (fun a o e q => by have := I.keep a o e; rw [q, hn] at this; cases this) k2) (r.later (later_subX k2))

theorem use_listcomp {elt : Expr} {gens : List Comprehension} {scope : Scope} {pos : Pos} (S : Snd c ft R n) (tp : Top1 c ft) (e1 : Env1 c f) (r2 : Room2 A n) (I : Inv c f T own loc s.heap) (h : listComp R f.sc elt gens scope loc = some (v, loc')) :
    UseOk c f A T own loc' (evalThenUse (.ListComp elt gens scope pos) f.env) v s := by
  intro u Q E hQ
  obtain ⟨g, rest, rfl, ha, hcl, K, hs, core⟩ := comp_core (pos := pos) S tp e1 r2 I h
  rw [arm_evalThenUse_ListComp]
  dsimp only
  rw [async_of ha, iter_of]
  refine wpAny_bind (wpAny_mono (wpAny_comprehension_free (use := some u) (g := g) (gs := rest) (Q := fun _ s' => Q () s') rfl hs hcl K.k1 (fun x hx hk => by have := (K.look x.1 x.2 hx).1; rw [hk] at this; exact this) ?_) (fun _ s' hq => wpAny_pure hq) fun _ _ e => e)
  refine core (fun acc C r s' => compPost (model c.prog c.w) A E (some u) (fun _ s' => Q () s') acc C r s') E fun x h' tk' own' Cl k l hn hm J r => ?_
  exact hQ x h' tk' own' Cl k l hn hm J r

/-- the expressions -/
theorem ResOk.of {e : Sem Value} {w : V} {b b' : Bool} {l2 : Loc} (h : some (w, b', l2) = some (v, b, loc')) (r : ResOk c f A T own l2 e w b' s) : ResOk c f A T own loc' e v b s := by cases h; exact r
theorem step_name {x : Str} {p : Pos} {b : Bool} (tp : Top1 c ft) (e1 : Env1 c f) (I : Inv c f T own loc s.heap) (h : evStep R ft f.sc (.Name x p) loc = some (v, b, loc')) : ResOk c f A T own loc' (eval (.Name x p) f.env) v b s := by
  have h : (match kindAt f.sc x with
    | some .local | some .cell | some .free => match getL loc x with
      | some (v, true) => some (v, true, setL loc x Option.none)
      | some (v, false) => some (v, false, loc)
      | Option.none => Option.none
    | some .globalImplicit => (tyOf x).map fun b => (.ty b, false, loc)
    | _ => Option.none) = some (v, b, loc') := h
  cases hk : kindAt f.sc x with
  | none => rw [hk] at h; exact no h
  | some k =>
    rw [hk] at h
    cases k with
    | «local» => exact ev_var e1 I (.inl hk) h
    | cell => exact ev_var e1 I (.inr (.inl hk)) h
    | free => exact ev_var e1 I (.inr (.inr hk)) h
    | globalImplicit =>
      obtain ⟨b', hb, he⟩ := Option.map_eq_some_iff.mp h
      exact .of (congrArg some he) (ev_type e1 tp I hk hb)
    | _ => exact no h
theorem step_call_name {g : Str} {gp p : Pos} {args : List Expr} {b : Bool} (S : Snd c ft R n) (tp : Top1 c ft) (e1 : Env1 c f) (r3 : Room2 A n) (I : Inv c f T own loc s.heap) (h : callV R ft f.sc (.Name g gp) args p loc = some (v, b, loc')) : ResOk c f A T own loc' (eval (.Call (.Name g gp) args [] p) f.env) v b s := by
  obtain ⟨hgl, h⟩ := if1 h
  rw [Bool.and_eq_true, Bool.and_eq_true] at hgl
  obtain ⟨⟨hgl, hem⟩, hnc⟩ := hgl
  have hk := globN_kind hgl
  have hne : args.isEmpty = false := by simpa using hem
  rcases if2 h with ⟨hcl, h⟩ | ⟨_, h⟩
  · have hcl := eq_of_beq hcl
    subst hcl
    match args, h with
    | [a], h =>
      obtain ⟨u, l1, h1, h⟩ := bs2 h
      exact .of h (ev_make S tp e1 r3 I hk h1)
    | [], h => exact no h
    | _ :: _ :: _, h => exact no h
  · cases hg : ft g with
    | some fd =>
      rw [hg] at h
      obtain ⟨vs, l1, h1, h⟩ := bs2 h
      obtain ⟨w, b', h2, h⟩ := bs2 h
      exact .of h (ev_calldef S tp e1 r3 I hk hg (by simpa [cmpName] using hnc) hne h1 h2)
    | none =>
      rw [hg] at h
      obtain ⟨b', hb, h⟩ := bs1 h
      obtain ⟨vs, l1, h1, h⟩ := bs2 h
      obtain ⟨w, h2, h⟩ := bs1 h
      exact .of h (ev_callbuilt S tp e1 r3 I hk hb hne h1 h2)
theorem step_call_attr {ox name : Str} {xp ap p : Pos} {args : List Expr} {b : Bool} (S : Snd c ft R n) (tp : Top1 c ft) (e1 : Env1 c f) (r3 : Room2 A n) (I : Inv c f T own loc s.heap) (h : callV R ft f.sc (.Attribute (.Name ox xp) name ap) args p loc = some (v, b, loc')) : ResOk c f A T own loc' (eval (.Call (.Attribute (.Name ox xp) name ap) args [] p) f.env) v b s := by
  obtain ⟨hline, h⟩ := ifn h
  have hline : (ap.endLine == p.line) = true := by simpa using hline
  rcases if2 h with ⟨hname, h⟩ | ⟨_, h⟩
  · have hname := eq_of_beq hname
    subst hname
    match args, h with
    | [a, d], h =>
      obtain ⟨ov, l1, h1, h⟩ := bs2 h
      obtain ⟨k, l2, h2, h⟩ := bs2 h
      obtain ⟨dv, l3, h3, h⟩ := bs2 h
      obtain ⟨es, i, rfl, rfl, h⟩ := inv_dictint h
      exact .of h (ev_get S e1 r3 I hline h1 h2 h3)
    | [], h => exact no h
    | [_], h => exact no h
    | _ :: _ :: _ :: _, h => exact no h
  · obtain ⟨hname, h'⟩ := if1 h
    clear h
    rw [Bool.and_eq_true, Bool.and_eq_true] at hname
    obtain ⟨⟨hname, hne⟩, hlen⟩ := hname
    have hname := eq_of_beq hname
    subst hname
    obtain ⟨ov, l1, h1, h⟩ := bs2 h'
    obtain ⟨vs, l2, h2, h⟩ := bs2 h
    obtain ⟨u, rfl, h⟩ := inv_inst h
    obtain ⟨w, b', h4, h⟩ := bs2 h
    obtain ⟨fd, hfd⟩ : ∃ fd, ft cmpName = some fd := S.callft _ _ _ h4
    exact .of h (ev_cmpcall S tp e1 r3 I hline hfd (by simpa using hne) (of_decide_eq_true hlen) h1 h2 h4)
theorem step_item {x i : Expr} {p : Pos} {b : Bool} (S : Snd c ft R n) (e1 : Env1 c f) (r3 : Room2 A n) (I : Inv c f T own loc s.heap) (h : (do
    let (a, loc) ← pk R f.sc x loc
    let (k, loc) ← pk R f.sc i loc
    let r ← itemV a k
    some (r, false, loc)) = some (v, b, loc')) : ResOk c f A T own loc' (eval (.Subscript x i p) f.env) v b s := by
  obtain ⟨a, l1, h1, h⟩ := bs2 h
  obtain ⟨k, l2, h2, h⟩ := bs2 h
  obtain ⟨w, h3, h⟩ := bs1 h
  exact .of h (ev_item S e1 r3 I h1 h2 h3)
theorem step_sub {x i : Expr} {p : Pos} {b : Bool} (S : Snd c ft R n) (e1 : Env1 c f) (r3 : Room2 A n) (I : Inv c f T own loc s.heap) (h : evStep R ft f.sc (.Subscript x i p) loc = some (v, b, loc')) : ResOk c f A T own loc' (eval (.Subscript x i p) f.env) v b s := by
  cases i with
  | Slice lo hi st p' =>
    cases st with
    | none =>
      obtain ⟨a, l1, h1, h⟩ := bs2 h
      obtain ⟨l, l2, h2, h⟩ := bs2 h
      obtain ⟨hi, l3, h3, h⟩ := bs2 h
      obtain ⟨w, h4, h⟩ := bs1 h
      exact .of h (ev_slice S e1 r3 I h1 h2 h3 h4)
    | some _ => exact step_item S e1 r3 I h
  | _ => exact step_item S e1 r3 I h
theorem step_ev {e : Expr} {b : Bool} (S : Snd c ft R n) (tp : Top1 c ft) (e1 : Env1 c f) (r2 : Room2 A (n + 1)) (I : Inv c f T own loc s.heap) (h : evStep R ft f.sc e loc = some (v, b, loc')) : ResOk c f A T own loc' (eval e f.env) v b s := by
  have r3 := r2.less (Nat.le_succ n)
  cases e with
  | Constant k _ _ =>
    cases k with
    | int i => exact .of h (.imm I (fun Q E hq => wpAny_Constant_int hq) (.int _ _))
    | str i => exact .of h (.imm I (fun Q E hq => wpAny_Constant_str hq) (.str _ _))
    | none => exact .of h (.imm (tk := s.toks) I (fun Q E hq => wpAny_Constant_none hq) .none)
    | bool i => exact .of h (.imm (tk := s.toks) I (fun Q E hq => wpAny_Constant_bool hq) (.bool _))
    | _ => exact no h
  | Name x p => exact step_name tp e1 I h
  | BinOp l op r p =>
    obtain ⟨x, l1, h1, h⟩ := bs2 h
    obtain ⟨y, l2, h2, h⟩ := bs2 h
    obtain ⟨w, h3, h⟩ := bs1 h
    exact .of h (ev_binop S e1 r3 I h1 h2 h3)
  | UnaryOp op x p =>
    cases op with
    | USub =>
      obtain ⟨x, l1, h1, h⟩ := bs2 h
      obtain ⟨i, rfl, h⟩ := inv_int h
      exact .of h (ev_neg S e1 r3 I h1)
    | _ => exact no h
  | IfExp t x o p =>
    obtain ⟨x, l1, h1, h⟩ := bs2 h
    exact ev_ifexp S e1 r3 I h1 h
  | Dict ks vs p =>
    obtain ⟨es, l1, h1, h⟩ := bs2 h
    obtain ⟨hs, h⟩ := if1 h
    exact .of h (ev_dict S tp e1 r3 I h1 (of_decide_eq_true hs))
  | List es p =>
    obtain ⟨vs, l1, h1, h⟩ := bs2 h
    obtain ⟨hs, h⟩ := if1 h
    exact .of h (ev_list S e1 r3 I h1 hs)
  | Tuple es k p =>
    obtain ⟨vs, l1, h1, h⟩ := bs2 h
    obtain ⟨hs, h⟩ := if1 h
    exact .of h (ev_tuple S e1 r3 I h1 hs)
  | ListComp elt gens sc p =>
    obtain ⟨w, l1, h1, h⟩ := bs2 h
    exact .of h (ev_listcomp S tp e1 r3 I h1)
  | Compare l ops rs p =>
    match ops, rs, h with
    | [op], [r], h =>
      obtain ⟨x, l1, h1, h⟩ := bs2 h
      obtain ⟨y, l2, h2, h⟩ := bs2 h
      obtain ⟨w, h3, h⟩ := bs1 h
      exact .of h (ev_compare S e1 r2 I h1 h2 h3)
    | [], _, h => exact no h
    | [_], [], h => exact no h
    | [_], _ :: _ :: _, h => exact no h
    | _ :: _ :: _, _, h => exact no h
  | Call fn args kws p =>
    cases kws with
    | cons _ _ => exact no h
    | nil =>
      cases fn with
      | Name g gp => exact step_call_name S tp e1 r3 I h
      | Attribute o name ap =>
        cases o with
        | Name ox xp => exact step_call_attr S tp e1 r3 I h
        | _ => exact no h
      | _ => exact no h
  | Attribute o attr p =>
    cases o with
    | Name ox xp =>
      obtain ⟨hname, h⟩ := if1 h
      have hname := eq_of_beq hname
      subst hname
      obtain ⟨a, l1, h1, h⟩ := bs2 h
      obtain ⟨u, rfl, h⟩ := inv_inst h
      exact .of h (ev_attr S tp e1 r3 I h1)
    | _ => exact no h
  | Subscript x i p => exact step_sub S e1 r3 I h
  | _ => exact no h
end
end Mine
end
/-! Stp2 -/
section
set_option maxRecDepth 100000
set_option linter.unusedVariables false
namespace Mine
open PySem PySem.W PyProof.Rows

section
variable {prog : Program} {w : World} {A : Around} {E : Value → Shared → Prop} {s : Shared}
theorem mapSeq_set (its : Array Value) (n j : Nat) (v : Value) : ∃ n', Obj.mapSeq (·.setIfInBounds j v) { cls := .type "list", data := .seq its n } = { cls := .type "list", data := .seq (its.setIfInBounds j v) n' } := by
  exact ⟨_, rfl⟩
theorem setItem_plain {l : Addr} {items : Array Value} {n : Nat} {k : Int} {t : Tok} {v : Value} {Q : Unit → Shared → Prop} (ho : s.heap.get? l = some { cls := .type "list", data := .seq items n })
    (h0 : 0 ≤ k) (hfit : k < 2 ^ 63) (hn : k < items.size)
    (hQ : ∀ h', h'.PlainList l (items.setIfInBounds k.toNat v) → Heap.SameBut l s.heap h' → Q () { s with heap := h' }) :
    wpAny (model prog w) A (setItem (.ref l) (.int k t) v) Q E s := by
  have hl : s.heap.IsList l items := ⟨_, ho, rfl, _, rfl⟩
  unfold setItem
  try with_reducible refine wpAny_holding ?_
  first | refine wpAny_bind (wpAny_pure ?_) | skip
  refine wpAny_bind (wpAny_sequenceKey hl.typeIs (by decide) ?_)
  refine wpAny_bind (wpAny_callSpecial?_slot (name := Str.ofString "__setitem__") hl.typeIs slot_list_setitem
    (wpAny_call_entry slot_list_setitem hl.typeIs entry_list_setitem ?_ (args_list_setitem _ _ _)))
  show wpAny _ _ (Builtin.List.listSubscript? (.int k t) >>= _) _ _ s
  refine wpAny_bind (wpAny_listSubscript_int (fitsIndex_of h0 hfit) ?_)
  clear hfit
  obtain ⟨j, rfl⟩ := Int.eq_ofNat_of_zero_le h0
  have hj : j < items.size := by omega
  have hx' : items[j]? = some items[j] := Array.getElem?_eq_getElem hj
  show wpAny _ _ ((seqItemAt l j >>= fun r => pure (r.map (j, ·))) >>= _) _ _ s
  refine wpAny_bind (wpAny_bind (wpAny_seqItemAt ho rfl (wpAny_pure ?_)))
  rw [hx']
  show wpAny _ _ (setSeqItemAt l j v >>= _) _ _ s
  obtain ⟨n', e⟩ := mapSeq_set items n j v
  have hfin : (s.heap.update l (Obj.mapSeq (·.setIfInBounds j v))).PlainList l (items.setIfInBounds j v) :=
    ⟨n', by rw [Heap.get?_update_self _ ho (by rw [e]; rfl), e]⟩
  refine wpAny_bind (wpAny_setSeqItemAt ho rfl ?_)
  first
    | exact wpAny_bind (wpAny_pure (wpAny_pure ⟨.none, rfl, wpAny_pure (hQ _ hfin (Heap.SameBut.update ..))⟩))
    | exact wpAny_pure ⟨.none, rfl, wpAny_pure (hQ _ hfin (Heap.SameBut.update ..))⟩
end

section
variable {c : Cx} {ft : Str → Option FD} {R : Ev} {n : Nat} {f : Fm} {A : Around} {T : List Addr} {own : Own} {loc loc' : Loc} {s : Shared} {v : V}

theorem rep_bool {h : Heap} {M : Addr → Prop} {b : Bool} {x : Value} (r : Rep c h M (.bool b) x) : x = .bool b := r.inv

theorem tst_compare {l r : Expr} {op : CmpOp} {pos : Pos} {a b : V} {l1 : Loc} {t : Bool} {whole : Sem Value} (S : Snd c ft R n) (e1 : Env1 c f) (r2 : Room2 A (n + 1)) (I : Inv c f T own loc s.heap) (h1 : pk R f.sc l loc = some (a, l1)) (h2 : pk R f.sc r l1 = some (b, loc')) (h3 : cmpV op a b = some t) :
    TstOk c f A T own loc' (isTrue (.Compare l [op] [r] pos) f.env whole) t s := by
  intro Q E hQ
  refine wpAny_isTrue_Compare1 ?_ (cmp_not_set S h2)
  have r3 := r2.less (Nat.le_succ n)
  refine pk_ok S e1 r3 I h1 _ E fun x h' tk' own' k l I' ra => ?_
  refine pk_ok (s := { s with heap := h', toks := tk' }) S e1 r3 I' h2 _ E fun y h'' tk'' own'' k' l' I'' rb => ?_
  refine (cmp_ok r2.room (seen_later k' l' ra) rb h3).val (s := { s with heap := h'', toks := tk'' }) I'' _ E fun z h3 tk3 own3 k3 l3 I3 r3 => ?_
  rw [rep_bool r3]
  exact wpAny_truthy_bool (hQ h3 tk3 own3 ((k.trans k').trans k3) (l3.trans (l'.trans l)) I3)

theorem tst_and (S : Snd c ft R n) (e1 : Env1 c f) (r2 : Room2 A n) (es : List Expr) : ∀ {b : Bool} {own : Own} {loc : Loc} {s : Shared}, Inv c f T own loc s.heap → allT R f.sc es loc = some (b, loc') → TstOk c f A T own loc' (allTrue .And es f.env) b s := by
  induction es with
  | nil =>
    intro b own loc s I h Q E hQ
    obtain ⟨rfl, rfl⟩ := some2 h
    exact wpAny_allTrue_And_nil (hQ s.heap s.toks own (KeepAll.rfl' _) (Less.rfl' _) I)
  | cons e r ih =>
    intro b own loc s I h Q E hQ
    obtain ⟨t, l1, h1, h2⟩ := bs2 h
    clear h
    refine wpAny_allTrue_And_cons (S.tst e1 r2 I h1 _ E fun h' tk' own' k l I' => ?_)
    cases t with
    | true =>
      exact ih (s := { s with heap := h', toks := tk' }) I' h2 Q E fun h'' tk'' own'' k2 l2 I2 => hQ h'' tk'' own'' (k.trans k2) (l2.trans l) I2
    | false =>
      obtain ⟨rfl, rfl⟩ := some2 h2
      exact hQ h' tk' own' k l I'
theorem tst_or (S : Snd c ft R n) (e1 : Env1 c f) (r2 : Room2 A n) (es : List Expr) : ∀ {b : Bool} {own : Own} {loc : Loc} {s : Shared}, Inv c f T own loc s.heap → anyT R f.sc es loc = some (b, loc') → TstOk c f A T own loc' (allTrue .Or es f.env) b s := by
  induction es with
  | nil =>
    intro b own loc s I h Q E hQ
    obtain ⟨rfl, rfl⟩ := some2 h
    exact wpAny_allTrue_Or_nil (hQ s.heap s.toks own (KeepAll.rfl' _) (Less.rfl' _) I)
  | cons e r ih =>
    intro b own loc s I h Q E hQ
    obtain ⟨t, l1, h1, h2⟩ := bs2 h
    clear h
    refine wpAny_allTrue_Or_cons (S.tst e1 r2 I h1 _ E fun h' tk' own' k l I' => ?_)
    cases t with
    | false =>
      exact ih (s := { s with heap := h', toks := tk' }) I' h2 Q E fun h'' tk'' own'' k2 l2 I2 => hQ h'' tk'' own'' (k.trans k2) (l2.trans l) I2
    | true =>
      obtain ⟨rfl, rfl⟩ := some2 h2
      exact hQ h' tk' own' k l I'

theorem TstOk.of {t : Sem Bool} {b b' : Bool} {l2 : Loc} (h : some (b', l2) = some (b, loc')) (r : TstOk c f A T own l2 t b' s) : TstOk c f A T own loc' t b s := by cases h; exact r
/-- the tests -/
theorem step_tst {e : Expr} {b : Bool} (S : Snd c ft R n) (tp : Top1 c ft) (e1 : Env1 c f) (r2 : Room2 A (n + 1)) (I : Inv c f T own loc s.heap) (h : tstStep R f.sc e loc = some (b, loc')) : TstOk c f A T own loc' (isTrue e f.env (eval e f.env)) b s := by
  have r3 := r2.less (Nat.le_succ n)
  cases e with
  | BoolOp op es p =>
    cases op with
    | And => exact fun Q E hQ => wpAny_isTrue_BoolOp (tst_and S e1 r3 _ I h Q E hQ)
    | Or => exact fun Q E hQ => wpAny_isTrue_BoolOp (tst_or S e1 r3 _ I h Q E hQ)
  | Compare l ops rs p =>
    cases ops with
    | nil => exact no h
    | cons op r => cases r with
      | cons _ _ => exact no h
      | nil => cases rs with
        | nil => exact no h
        | cons x r => cases r with
          | cons _ _ => exact no h
          | nil =>
            obtain ⟨x, l1, h1, h⟩ := bs2 h
            obtain ⟨y, l2, h2, h⟩ := bs2 h
            obtain ⟨w, h3, h⟩ := bs1 h
            exact .of h (tst_compare S e1 r2 I h1 h2 h3)
  | Call fn args kws p =>
    cases kws with
    | cons _ _ => exact no h
    | nil =>
      obtain ⟨x, l1, h1, h⟩ := bs2 h
      obtain ⟨t, rfl, h⟩ := inv_bool h
      refine .of h fun Q E hQ => ?_
      refine wpAny_isTrue_value (val_ok S e1 r3 I h1 _ E fun x h' tk' own' k l I' r => ?_) rfl
      rw [rep_bool r]
      exact wpAny_truthy_bool (hQ h' tk' own' k l I')
  | _ => exact no h

/-! assignments -/
theorem swaps_cases (value : Expr) (x : Str) (p : Pos) (line : Nat) (env : Env) : swapsWith value (some (.Name x p)) line env = pure false ∨
    (swapsWith value (some (.Name x p)) line env = pure true ∧ ((∃ a g k q, value = .ListComp a g k q) ∨ (∃ a g k q, value = .SetComp a g k q) ∨ ∃ a b g k q, value = .DictComp a b g k q)) := by
  have key : ∀ b : Bool, (pure b : Sem Bool) = pure false ∨ (pure b : Sem Bool) = pure true := fun b => by cases b <;> simp
  cases value <;> try (exact .inl rfl)
  · rename_i a g k q
    rcases key (env.blockKind == .function && env.kindOf x == some .local && p.line == q.line && !(k.names.any fun (n, k) => n == x && (k == .local || k == .cell))) with h | h
    · exact .inl h
    · exact .inr ⟨h, .inl ⟨a, g, k, q, rfl⟩⟩
  · rename_i a g k q
    rcases key (env.blockKind == .function && env.kindOf x == some .local && p.line == q.line && !(k.names.any fun (n, k) => n == x && (k == .local || k == .cell))) with h | h
    · exact .inl h
    · exact .inr ⟨h, .inr (.inl ⟨a, g, k, q, rfl⟩)⟩
  · rename_i a b g k q
    rcases key (env.blockKind == .function && env.kindOf x == some .local && p.line == q.line && !(k.names.any fun (n, k) => n == x && (k == .local || k == .cell))) with h | h
    · exact .inl h
    · exact .inr ⟨h, .inr (.inr ⟨a, b, g, k, q, rfl⟩)⟩
theorem swaps_sub (value o i : Expr) (p : Pos) (line : Nat) (env : Env) : swapsWith value (some (.Subscript o i p)) line env = pure false := by cases value <;> rfl
theorem swaps_tup (value : Expr) (ts : List Expr) (k : Nat) (p : Pos) (line : Nat) (env : Env) : swapsWithSole [.Tuple ts k p] value line env = pure false := by cases value <;> rfl

theorem Mu_less {own' : Own} (l : Less own' own) : ∀ b, f.Mu T own' b → f.Mu T own b := fun b => Fm.Mu_sub l

theorem exec_assign {x : Str} {xp pos : Pos} {e : Expr} {b : Bool} {l1 : Loc} (S : Snd c ft R n) (tp : Top1 c ft) (e1 : Env1 c f) (r2 : Room2 A n) (I : Inv c f [] own loc s.heap) (h1 : R.ev f.sc e loc = some (v, b, l1)) (h2 : putN f.sc x v b l1 = some loc') :
    ExOk c f A own (exec (.Assign [.Name x xp] e pos) f.env) .next loc' s := by
  intro Q E q1 _ _
  rcases swaps_cases e x xp pos.line f.env with hs | ⟨hs, hv⟩
  · refine wpAny_Assign_Name ?_ hs
    refine S.ev e1 r2 I h1 _ E fun xv h' tk' own' k l g0 g1 => ?_
    cases b with
    | false =>
      obtain ⟨I', r⟩ := g0 rfl
      refine store_plain (s := { s with heap := h', toks := tk' }) e1 I' r h2 (.inl rfl) _ E fun h'' tk'' own'' kb l2 J => ?_
      exact q1 rfl h'' tk'' own'' ((Tr.of k l).trans (kb.tr (Mu_less l2))) J
    | true =>
      obtain ⟨a, rfl, I', r, q⟩ := g1 rfl
      refine store_own (T := []) (s := { s with heap := h', toks := tk' }) e1 I' r h2 _ E fun h'' tk'' own'' kb l2 J => ?_
      refine q1 rfl h'' tk'' own'' (fun d o hm ed => ?_) J
      have hne : d ≠ a := fun qd => by
        subst qd
        rcases q with q | q
        · rw [q] at ed; cases ed
        · rcases q with q | q
          · exact (I'.tmp d (.head _)).X q
          · exact hm q
      have hnd : ¬ f.Mu [a] own' d := fun q => by
        rcases q with q | q | ⟨y, q⟩ | q
        · exact hm (.inl q)
        · exact hm (.inr (.inl q))
        · exact hm (.inr (.inr (.inl ⟨y, l y d q⟩)))
        · exact hne (List.mem_singleton.mp q)
      exact ⟨kb d o (fun q => hnd (.inl q)) (fun q => hnd (.inr (.inl q))) (k d o ed), fun q => hnd (l2 d q)⟩
  · rcases hv with ⟨a, g, kk, q, rfl⟩ | ⟨a, g, kk, q, rfl⟩ | ⟨a, a2, g, kk, q, rfl⟩
    · obtain ⟨rfl, hu⟩ := S.use e1 r2 I h1
      rw [exec_Assign_Name_used _ _ _ _ hs]
      refine wpAny_bind (wpAny_standAt (wpAny_bind ?_))
      refine hu _ (fun _ s' => wpAny (model c.prog c.w) A (pure Flow.next) Q E s') E fun xv h' tk' own' Cl k l hn hm J r => ?_
      obtain ⟨m, hm⟩ := hm
      refine wpAny_assign_Name (store_plain (f := f.addX (· = Cl)) (s := { s with heap := h', toks := tk' }) (e1.addX _) J r h2 (.inl rfl) _ E fun h2 tk2 own2 kb l2 J2 => ?_)
      have hCl : Cl ≠ f.env.locals := fun q => J.xl (.inr q.symm)
      have hCm : Cl ∉ f.mc := fun q => (J.mcs Cl q).2.2 (.inr rfl)
      refine ⟨m, hm.at' fun o e => kb Cl o hCl hCm e, fun h3 hs3 => wpAny_pure ?_⟩
      have k3 : ∀ b o, ¬ b = Cl → h2.get? b = some o → h3.get? b = some o := fun b o q e => hs3.extBut b o q e
      have hd : ∀ a, a = Cl → ¬ f.X a := fun a ha q => by
        obtain ⟨o, e⟩ := I.xs a q
        rw [ha, hn] at e; cases e
      refine q1 rfl h3 tk2 own2 (fun b o hm e => ⟨k3 b o (fun q => by rw [q, hn] at e; cases e) (kb b o (fun q => hm (.inl q)) (fun q => hm (.inr (.inl q))) (k b o e)), fun q => hm (Fm.Mu_sub l (Fm.Mu_sub l2 q))⟩) (J2.subX e1 hd (fun a o e q => by have := I.keep a o e; rw [q, hn] at this; cases this) k3)
    · rw [S.noSetC] at h1; cases h1
    · rw [S.noDictC] at h1; cases h1

theorem later_temps {Ts : List Addr} {own' own'' : Own} {h' h'' : Heap} (k2 : KeepAll h' h'') (l2 : Less own'' own') (hT : ∀ a ∈ Ts, h'.get? a = Option.none ∨ f.M T own' a) : Later h' (f.M T own') h'' (f.M (Ts ++ T) own'') := fun a o hm e => ⟨k2 a o e, fun q => by
  rcases q with q | q | q | ⟨y, q⟩ | q
  · exact hm (.inl q)
  · exact hm (.inr (.inl q))
  · exact hm (.inr (.inr (.inl q)))
  · exact hm (.inr (.inr (.inr (.inl ⟨y, l2 y a q⟩))))
  · rcases List.mem_append.mp q with q | q
    · rcases hT a q with q | q
      · rw [q] at e; cases e
      · exact hm q
    · exact hm (.inr (.inr (.inr (.inr q))))⟩
/-- values with their ownership -/
theorem evos_ok (S : Snd c ft R n) (e1 : Env1 c f) (r2 : Room2 A n) {pos : Pos} (es : List Expr) : ∀ {T : List Addr} {vs : List (V × Bool)} {own : Own} {loc : Loc} {s : Shared}, Inv c f T own loc s.heap → evos R f.sc es loc = some (vs, loc') →
    ∀ (Q : List Value → Shared → Prop) (E : Value → Shared → Prop), (∀ xs Ts h' tk' own', KeepAll s.heap h' → Less own' own → Inv c f (Ts ++ T) own' loc' h' → Helds c h' (f.M (Ts ++ T) own') vs xs Ts → xs.length = es.length → (∀ a ∈ Ts, s.heap.get? a = Option.none ∨ f.M T own a) → Q xs { s with heap := h', toks := tk' }) →
      wpAny (model c.prog c.w) A (spliced (backTo pos (starEach es f.env))) Q E s := by
  induction es with
  | nil =>
    intro T vs own loc s I h Q E hQ
    obtain ⟨rfl, rfl⟩ := some2 h
    exact wpAny_items_nil (hQ [] [] s.heap s.toks own (KeepAll.rfl' _) (Less.rfl' _) I .nil rfl (fun _ q => nomatch q))
  | cons e es ih =>
    intro T vs own loc s I h Q E hQ
    obtain ⟨v, b, l1, h1, h⟩ := bs3 h
    obtain ⟨us, l2, h2, h⟩ := bs2 h
    obtain ⟨rfl, rfl⟩ := some2 h
    clear h
    refine wpAny_items_cons ?_ (starEach_cons (star_of S (by rw [h1]; rfl)))
    refine S.ev e1 r2 I h1 _ E fun x h' tk' own' k l g0 g1 => ?_
    cases b with
    | false =>
      obtain ⟨I', r⟩ := g0 rfl
      refine ih (s := { s with heap := h', toks := tk' }) I' h2 _ E fun xs Ts h'' tk'' own'' k2 l2 I'' rs hl hT => ?_
      have lt := later_temps k2 l2 hT
      exact hQ _ Ts h'' tk'' own'' (k.trans k2) (l2.trans l) I'' (.plain (r.later lt) rs) (by simp [hl]) fun a ha => (hT a ha).elim (fun q => .inl (none_of_keep k q)) fun q => .inr (Fm.M_sub l q)
    | true =>
      obtain ⟨a, rfl, I', r, hq⟩ := g1 rfl
      refine ih (s := { s with heap := h', toks := tk' }) I' h2 _ E fun xs Ts h'' tk'' own'' k2 l2 I'' rs hl hT => ?_
      have lt := later_temps k2 l2 hT
      obtain ⟨I3, hM⟩ := I''.perm (List.perm_middle (a := a) (l₁ := Ts) (l₂ := T))
      have lp : Later h'' (f.M (Ts ++ (a :: T)) own'') h'' (f.M ((a :: Ts) ++ T) own'') := fun d o hm e => ⟨e, fun q => hm ((hM d).mp q)⟩
      refine hQ _ (a :: Ts) h'' tk'' own'' (k.trans k2) (l2.trans l) I3 (.owned ((r.later lt fun o e => k2 a o e).later lp fun _ e => e) (rs.later lp fun _ _ _ e => e)) (by simp [hl]) fun d hd => ?_
      rcases List.mem_cons.mp hd with rfl | hd
      · exact hq
      · rcases hT d hd with q | q
        · exact .inl (none_of_keep k q)
        · rcases Fm.M_temp q with q | q
          · exact .inr (Fm.M_sub l q)
          · subst q; exact hq

theorem ite_chain {α : Type} {c1 c2 c3 c4 c5 : Prop} [Decidable c1] [Decidable c2] [Decidable c3] [Decidable c4] [Decidable c5] {a b u r : α} (h5 : ¬ c5) (h : r = if c1 then a else if c2 then a else if c3 then a else if c4 then a else if c5 then u else b) : r = a ∨ (¬ c3 ∧ r = b) := by
  by_cases q1 : c1
  · exact .inl (by rw [h, if_pos q1])
  by_cases q2 : c2
  · exact .inl (by rw [h, if_neg q1, if_pos q2])
  by_cases q3 : c3
  · exact .inl (by rw [h, if_neg q1, if_neg q2, if_pos q3])
  by_cases q4 : c4
  · exact .inl (by rw [h, if_neg q1, if_neg q2, if_neg q3, if_pos q4])
  exact .inr ⟨q3, by rw [h, if_neg q1, if_neg q2, if_neg q3, if_neg q4, if_neg h5]⟩
theorem filterMap_sub {α β : Type} {g n : α → Option β} (hg : ∀ t, g t = none ∨ g t = n t) {l : List α} : (l.filterMap g).length = l.length → l.filterMap g = l.filterMap n := by
  induction l with
  | nil => exact fun _ => rfl
  | cons t l ih =>
    intro h
    have hle := List.length_filterMap_le g l
    rw [List.filterMap_cons] at h ⊢
    rw [List.filterMap_cons]
    rcases hg t with e | e
    · rw [e] at h
      rw [List.length_cons] at h
      have h : (l.filterMap g).length = l.length + 1 := h
      omega
    · rw [← e]
      cases q : g t with
      | none =>
        rw [q] at h
        have h : (l.filterMap g).length = l.length + 1 := h
        omega
      | some y =>
        rw [q] at h
        have h : (l.filterMap g).length + 1 = l.length + 1 := h
        show y :: l.filterMap g = y :: l.filterMap n
        rw [ih (Nat.succ.inj h)]
set_option backward.match.sparseCases true in
theorem swapped_cases {ts es : List Expr} {k k' : Nat} {p p' : Pos} {env : Env} (hc : es.all (constantsAlone 8) = false) :
    swappedStores [.Tuple ts k p] (.Tuple es k' p') env = pure none ∨ swappedStores [.Tuple ts k p] (.Tuple es k' p') env = pure (some (ts.filterMap nameOf)) := by
  have h5 : ¬ es.all (constantsAlone 8) = true := by rw [hc]; exact Bool.false_ne_true
  rcases ite_chain (r := swappedStores [.Tuple ts k p] (.Tuple es k' p') env) h5 rfl with h | ⟨h3, h⟩
  · exact .inl h
  · refine .inr (h.trans (congrArg (fun l => (pure (some l) : Sem (Option (List Str)))) ?_))
    rw [Bool.or_eq_true, not_or] at h3
    have h1 := h3.1
    rw [bne_iff_ne, ne_eq, Decidable.not_not] at h1
    refine filterMap_sub (fun t => ?_) h1
    cases t with
    | Name x q =>
      rcases Bool.eq_false_or_eq_true (env.kindOf x == some .local && q.line == ((ts.head?.map (·.pos.line)).getD 0)) with e | e
      · exact .inr (if_pos e)
      · exact .inl (if_neg (by rw [e]; exact Bool.false_ne_true))
    | _ => exact .inl rfl
end
end Mine
end
/-! Stp3 -/
section
set_option maxRecDepth 100000
set_option linter.unusedVariables false
namespace Mine
open PySem PySem.W PyProof.Rows

section
variable {c : Cx} {ft : Str → Option FD} {R : Ev} {n : Nat} {f : Fm} {A : Around} {T : List Addr} {own : Own} {loc loc' : Loc} {s : Shared} {v : V}

/-- the trace of a step that leaves temporaries, and of their being stored -/
theorem tr_temps {h h' h'' : Heap} {own' own'' : Own} {Ts : List Addr} (k : KeepAll h h') (l : Less own' own) (I' : Inv c f (Ts ++ []) own' loc h') (hT : ∀ a ∈ Ts, h.get? a = Option.none ∨ f.M [] own a) (kb : KeepBut f h' h'') (hMu : ∀ b, f.Mu [] own'' b → f.Mu (Ts ++ []) own' b) :
    Tr f [] own h [] own'' h'' := fun a o hm e => by
  have hna : ¬ f.Mu (Ts ++ []) own' a := fun q => by
    rcases q with q | q | ⟨y, q⟩ | q
    · exact hm (.inl q)
    · exact hm (.inr (.inl q))
    · exact hm (.inr (.inr (.inl ⟨y, l y a q⟩)))
    · have qt := q
      rw [List.append_nil] at q
      rcases hT a q with q | q
      · rw [q] at e; cases e
      · rcases q with q | q
        · exact (I'.tmp a qt).X q
        · exact hm q
  exact ⟨kb a o (fun q => hna (.inl q)) (fun q => hna (.inr (.inl q))) (k a o e), fun q => hna (hMu a q)⟩

noncomputable def bindT (env : Env) (t : Expr) : Value → Sem Unit := match nameOf t with
  | some x => bindName env x
  | none => fun _ => pure ()
theorem bindT_map {env : Env} : ∀ {ts : List Expr}, (ts.map nameOf).all Option.isSome = true → (ts.filterMap nameOf).map (fun n => bindName env n) = ts.map (bindT env)
  | [], _ => rfl
  | t :: ts, h => by
    obtain ⟨x, p, rfl, h'⟩ := names_cons h
    show bindName env x :: (ts.filterMap nameOf).map (fun n => bindName env n) = bindT env (.Name x p) :: ts.map (bindT env)
    rw [bindT_map h']
    rfl
theorem names_length : ∀ {ts : List Expr}, (ts.map nameOf).all Option.isSome = true → (ts.filterMap nameOf).length = ts.length
  | [], _ => rfl
  | t :: ts, h => by
    obtain ⟨x, p, rfl, h'⟩ := names_cons h
    show (ts.filterMap nameOf).length + 1 = ts.length + 1
    rw [names_length h']

theorem exec_tuplelit {ts es : List Expr} {k k' : Nat} {p p' pos : Pos} {vs : List (V × Bool)} {l1 : Loc} (S : Snd c ft R n) (e1 : Env1 c f) (r2 : Room2 A n) (I : Inv c f [] own loc s.heap) (hl : ts.length = es.length) (hn : (ts.map nameOf).all Option.isSome = true) (hnd : (ts.filterMap nameOf).Nodup)
    (h100 : es.length ≤ 100) (hc : es.all (constantsAlone 8) = false) (h1 : evos R f.sc es loc = some (vs, l1)) (h2 : putNs f.sc ts vs l1 = some loc') : ExOk c f A own (exec (.Assign [.Tuple ts k p] (.Tuple es k' p') pos) f.env) .next loc' s := by
  intro Q E q1 _ _
  obtain ⟨n1, n2⟩ := putNs_names h2
  have value : ∀ (Q : Value → Shared → Prop), (∀ a xs Ts h' tk' own', KeepAll s.heap h' → Less own' own → Inv c f (Ts ++ []) own' l1 h' → Helds c h' (f.M (Ts ++ []) own') vs xs Ts → h'.IsTuple a (List.toArray xs) → xs.length = es.length → (∀ a ∈ Ts, s.heap.get? a = Option.none ∨ f.M [] own a) → Q (.ref a) { s with heap := h', toks := tk' }) →
      wpAny (model c.prog c.w) A (eval (.Tuple es k' p') f.env) Q E s := fun Q hQ => by
    refine wpAny_Tuple (evos_ok S e1 r2 es I h1 _ E fun xs Ts h' tk' own' kk l I' hs hlen hT => ⟨by rw [hlen, sizeLine_eq]; omega, ?_⟩)
    have k2 := KeepAll.push h' { cls := .type "tuple", data := .seq xs.toArray }
    exact hQ _ xs Ts _ tk' own' (kk.trans k2) l (I'.keeps k2) (hs.later (k2.later _) fun a _ o e => k2 a o e) ⟨_, Heap.get?_push_size _ rfl, rfl, _, rfl⟩ hlen hT
  rcases swapped_cases (p := p) (p' := p') (k := k) (k' := k') (env := f.env) hc with hw | hw
  · refine Assign_Tuple (value _ fun a xs Ts h' tk' own' kk l I' hs ht hlen hT => ?_) (swaps_tup ..) hw
    refine wpAny_assign_Tuple r2.hd ht (by rw [n2, List.length_map, List.size_toArray, hlen, hl]) (by rw [n2]; simp) fun h2' he => ?_
    have k3 := ext_keep he
    rw [n2, List.map_map]
    refine stores_ok (T := []) (s := { s with heap := h2', toks := tk' }) e1 ts (fun t => assign t f.env) (fun x p _ xv s Q E hq => wpAny_assign_Name hq) (I'.keeps k3) (hs.later (k3.later _) fun a _ o e => k3 a o e) h2 _ E fun h3 tk3 own3 kb l3 J => ?_
    exact q1 rfl h3 tk3 own3 (tr_temps kk l I' hT ((KeepBut.of k3).trans kb) l3) J
  · refine Assign_Tuple_swapped (value _ fun a xs Ts h' tk' own' kk l I' hs ht hlen hT => ?_) (swaps_tup ..) hw
    have hsz : (ts.filterMap nameOf).length = (List.toArray xs).size := by rw [names_length hn, List.size_toArray, hlen, hl]
    rw [hsz]
    refine wpAny_unpackItems_tuple r2.hd ht fun h2' he => ?_
    have k3 := ext_keep he
    rw [List.map_reverse, bindT_map hn, ← List.map_reverse]
    have I3 := I'.keeps k3
    obtain ⟨I4, hM⟩ := I3.perm (T' := Ts.reverse ++ []) (by rw [List.append_nil, List.append_nil]; exact (List.reverse_perm Ts).symm)
    have lp : Later h2' (f.M (Ts ++ []) own') h2' (f.M (Ts.reverse ++ []) own') := fun d o hm e => ⟨e, fun q => hm ((hM d).mp q)⟩
    have hs3 := (hs.later (k3.later _) fun a _ o e => k3 a o e).reverse.later lp fun _ _ _ e => e
    refine stores_ok (T := []) (s := { s with heap := h2', toks := tk' }) e1 ts.reverse (bindT f.env) (fun x p _ xv s Q E hq => wpAny_bindName hq) I4 hs3 (by rw [putNs_reverse (hl.trans (by rw [← hl, n1])) hn hnd]; exact h2) _ E fun h3 tk3 own3 kb l3 J => ?_
    refine q1 rfl h3 tk3 own3 (tr_temps kk l I' hT ((KeepBut.of k3).trans kb) fun b q => ?_) J
    rcases l3 b q with q | q | q | q
    · exact .inl q
    · exact .inr (.inl q)
    · exact .inr (.inr (.inl q))
    · exact .inr (.inr (.inr (by simpa using q)))

theorem swapped_none {ts : List Expr} {k : Nat} {p : Pos} {e : Expr} {env : Env} (h : ∀ es k' p', e ≠ .Tuple es k' p') : swappedStores [.Tuple ts k p] e env = pure none := by
  cases e <;> first | rfl | exact absurd rfl (h _ _ _)

theorem exec_tuple {ts : List Expr} {e : Expr} {k : Nat} {p pos : Pos} {w : V} {vs : List V} {l1 : Loc} (S : Snd c ft R n) (e1 : Env1 c f) (r2 : Room2 A n) (I : Inv c f [] own loc s.heap) (hne : ∀ es k' p', e ≠ .Tuple es k' p')
    (h1 : val R f.sc e loc = some (w, l1)) (h2 : itemsOf w = some vs) (h3 : putNs f.sc ts (vs.map fun v => (v, false)) l1 = some loc') : ExOk c f A own (exec (.Assign [.Tuple ts k p] e pos) f.env) .next loc' s := by
  intro Q E q1 _ _
  obtain ⟨n1, n2⟩ := putNs_names h3
  rw [List.length_map] at n1
  refine Assign_Tuple (val_ok S e1 r2 I h1 _ E fun x h' tk' own' kk l I' r => ?_) (swaps_tup ..) (swapped_none hne)
  have fin : ∀ (h2 : Heap) (xs : List Value), KeepAll h' h2 → Reps c h' (f.M [] own') vs xs → wpAny (model c.prog c.w) A (assignInOrder ((assignEach ts f.env).map (·.2)) xs) (fun _ => Q .next) E { s with heap := h2, toks := tk' } := fun h2 xs k2 rs => by
    rw [n2, List.map_map]
    refine stores_ok (T := []) (Ts := []) (s := { s with heap := h2, toks := tk' }) e1 ts (fun t => assign t f.env) (fun x p _ xv s Q E hq => wpAny_assign_Name hq) (I'.keeps k2) (rs.later (k2.later _)).helds h3 _ E fun h3 tk3 own3 kb l3 J => ?_
    exact q1 rfl h3 tk3 own3 ((Tr.of (kk.trans k2) l).trans (kb.tr l3)) J
  cases w with
  | tup ws =>
    cases (some1 h2)
    obtain ⟨a, xs, m, rfl, hm, ex, rs⟩ := rep_tup r
    exact wpAny_assign_Tuple r2.hd (tup_obj ex) (by rw [n2, List.length_map, n1, List.size_toArray, rs.length]) (by rw [n2]; simp) fun h2 he => fin h2 xs (ext_keep he) rs
  | list ws =>
    cases (some1 h2)
    obtain ⟨a, xs, m, rfl, hm, ex, rs⟩ := rep_list r
    rw [arm_assign_Tuple]
    refine wpAny_bind (wpAny_standAt ?_)
    unfold unpack
    have e2 : (assignEach ts f.env).findIdx? (·.1) = none := by rw [n2]; simp
    have e3 : (assignEach ts f.env).length = (List.toArray xs).size := by rw [n2, List.length_map, n1, List.size_toArray, rs.length]
    rw [e2, e3]
    exact wpAny_bind (wpAny_holding (unpackItems_list r2.hd (list_obj ex) fun h2 he => fin h2 xs (ext_keep he) rs))
  | _ => exact no h2

/-- the object that a name owns is changed -/
theorem Inv.touch_own {h h' : Heap} {x : Str} {a : Addr} {w w' : V} (I : Inv c f T own loc h) (hk : kindAt f.sc x = some .local) (ho : own x = some a) (hg : getL loc x = some (w, true)) (hs : Heap.SameBut a h h') (r : Root c h' (f.M T own) a w') :
    Inv c f T own (setL loc x (some (w', true))) h' := by
  have hl := getL_lookup hg
  have aM : f.M T own a := .inr (.inr (.inr (.inl ⟨x, ho⟩)))
  have qa := I.ow x a ho
  have keep : ∀ b o, b ≠ a → h.get? b = some o → h'.get? b = some o := fun b o hb e => hs.extBut b o hb e
  have l : Later h (f.M T own) h' (f.M T own) := fun b o hm e => ⟨keep b o (fun q => hm (q ▸ aM)) e, hm⟩
  have lv : ∀ {b : Addr}, (∃ o, h.get? b = some o) → ∃ o, h'.get? b = some o := fun {b} ⟨o, e⟩ => by
    by_cases q : b = a
    · subst q; exact r.there
    · exact ⟨o, keep b o q e⟩
  have fr : ∀ b, Free1 c f h b → Free1 c f h' b := fun b q => ⟨q.base, lv q.live, q.loc, q.mc, q.X⟩
  obtain ⟨m, F, hm⟩ := I.fr
  refine ⟨⟨m, ⟨F.ns.sameBut hs (Ne.symm qa.1.loc), fun b o e => keep b o (fun q => by rw [q, qa.1.base] at e; cases e) (F.keep b o e), F.above⟩, fun y u d hgy hky => ?_⟩, fun y u d hgy hky => ?_, fun y hy hky => ?_, fun y b e => ⟨fr b (I.ow y b e).1, (I.ow y b e).2⟩, I.inj, fun b hb => fr b (I.tmp b hb), I.tnd, I.xl, I.ml, fun b hb => ⟨(I.mcs b hb).1, lv (I.mcs b hb).2.1, (I.mcs b hb).2.2⟩, fun b hb => lv (I.xs b hb)⟩
  · rw [getL_setL] at hgy
    by_cases hy : y = x
    · subst hy
      rw [if_pos rfl, if_pos hl] at hgy
      cases hgy
      obtain ⟨xv, hx, hb⟩ := hm y w true hg hk
      unfold Bears at hb
      rw [if_pos rfl] at hb
      obtain ⟨a', rfl, ho', _⟩ := hb
      rw [ho] at ho'; cases ho'
      exact ⟨_, hx, by unfold Bears; rw [if_pos rfl]; exact ⟨a, rfl, ho, r⟩⟩
    · rw [if_neg hy] at hgy
      obtain ⟨xv, hx, hb⟩ := hm y u d hgy hky
      exact ⟨xv, hx, hb.later l fun _ b e => ⟨e, fun o e' => keep b o (fun q => hy (I.inj y x b e (q ▸ ho))) e'⟩⟩
  · rw [getL_setL] at hgy
    by_cases hy : y = x
    · subst hy; rw [hk] at hky; rcases hky with e | e <;> cases e
    · rw [if_neg hy] at hgy
      obtain ⟨hb, kk, xv, h1, hx, ⟨o, h2, h2'⟩, h3⟩ := I.cells y u d hgy hky
      refine ⟨hb, kk, xv, h1, hx, ⟨o, keep kk o (fun q => ?_) h2, h2'⟩, h3.later l⟩
      rw [q] at h2
      -- an owned object is a list or a dict, no cell
      obtain ⟨xv2, hx2, hb2⟩ := hm x w true hg hk
      unfold Bears at hb2
      rw [if_pos rfl] at hb2
      obtain ⟨a', rfl, ho', hr⟩ := hb2
      rw [ho] at ho'; cases ho'
      cases hr with
      | list e _ => rw [h2] at e; cases e; cases h2'
      | dict _ dd _ =>
        obtain ⟨o', es, ep, e, _, hd, _⟩ := dd
        rw [h2] at e; cases e
        rw [h2'] at hd; cases hd
  · obtain ⟨kk, v₀, h1, h2, ⟨o, h3, h3'⟩⟩ := I.cellAt y (by rwa [lookup_setL_isSome] at hy) hky
    exact ⟨kk, v₀, h1, h2, o, keep kk o (fun q => qa.1.mc (q ▸ h2)) h3, h3'⟩

/-- what a name owns -/
theorem own_at {x : Str} {w : V} {h : Heap} (I : Inv c f T own loc h) (hk : kindAt f.sc x = some .local) (hg : getL loc x = some (w, true)) : ∃ a, own x = some a ∧ Root c h (f.M T own) a w := by
  obtain ⟨m, F, hm⟩ := I.fr
  obtain ⟨xv, hx, hb⟩ := hm x w true hg hk
  unfold Bears at hb
  rw [if_pos rfl] at hb
  obtain ⟨a, _, ho, r⟩ := hb
  exact ⟨a, ho, r⟩

theorem load_own {x : Str} {pos : Pos} {w : V} {a : Addr} (e1 : Env1 c f) (I : Inv c f T own loc s.heap) (hk : kindAt f.sc x = some .local) (hg : getL loc x = some (w, true)) (ho : own x = some a) {Q : Value → Shared → Prop} {E : Value → Shared → Prop} (hQ : Q (.ref a) s) :
    wpAny (model c.prog c.w) A (eval (.Name x pos) f.env) Q E s := by
  refine load_ok e1 I hg (.inl hk) fun xv _ h1 => ?_
  obtain ⟨_, a', rfl, ho', _⟩ := h1 rfl
  rw [ho] at ho'; cases ho'
  exact hQ

theorem inv_put {sc : Scope} {x : Str} {i w : V} (h : putItem sc x i w loc = some loc') : kindAt sc x = some .local ∧ ∃ k u, i = .int k ∧ getL loc x = some (u, true) ∧
    ((∃ es, u = .dict es ∧ small es.length = true ∧ setL loc x (some (.dict (storeE es k w), true)) = loc') ∨ ∃ vs, u = .list vs ∧ (decide (0 ≤ k) && decide (k.toNat < vs.length) && small vs.length) = true ∧ setL loc x (some (.list (vs.set k.toNat w), true)) = loc') := by
  obtain ⟨hk, h⟩ := if1 h
  refine ⟨eq_of_beq hk, ?_⟩
  cases hg : getL loc x with
  | none => rw [hg] at h; exact no h
  | some p =>
    obtain ⟨u, b⟩ := p
    rw [hg] at h
    cases b with
    | false => cases u <;> exact no h
    | true =>
      cases u with
      | dict es =>
        cases i with
        | int k =>
          obtain ⟨hs, h⟩ := if1 h
          exact ⟨k, _, rfl, rfl, .inl ⟨es, rfl, hs, some1 h⟩⟩
        | _ => exact no h
      | list vs =>
        cases i with
        | int k =>
          obtain ⟨hs, h⟩ := if1 h
          exact ⟨k, _, rfl, rfl, .inr ⟨vs, rfl, hs, some1 h⟩⟩
        | _ => exact no h
      | _ => exact no h
theorem putItem_kind {sc : Scope} {x : Str} {i w : V} (h : putItem sc x i w loc = some loc') : kindAt sc x = some .local ∧ ∃ u, getL loc x = some (u, true) :=
  let ⟨hk, _, u, _, hg, _⟩ := inv_put h
  ⟨hk, u, hg⟩

/-- x[i] = v -/
theorem putItem_ok {x : Str} {i w : V} {iv wv : Value} {a : Addr} (I : Inv c f [] own loc s.heap) (ho : own x = some a) (ri : Seen c s.heap (f.M [] own) i iv) (rw' : Rep c s.heap (f.M [] own) w wv) (h : putItem f.sc x i w loc = some loc') (Q : Unit → Shared → Prop) (E : Value → Shared → Prop)
    (hQ : ∀ h' tk', Heap.SameBut a s.heap h' → Inv c f [] own loc' h' → Q () { s with heap := h', toks := tk' }) : wpAny (model c.prog c.w) A (setItem (.ref a) iv wv) Q E s := by
  obtain ⟨hk, k, u, rfl, hg, h⟩ := inv_put h
  obtain ⟨a', ho', r⟩ := own_at I hk hg
  obtain rfl := some1 (ho.symm.trans ho')
  obtain ⟨t, rfl⟩ := ri.int
  have aM : f.M [] own a := .inr (.inr (.inr (.inl ⟨x, ho⟩)))
  have lt : ∀ {h'}, Heap.SameBut a s.heap h' → Later s.heap (f.M [] own) h' (f.M [] own) := fun hs' b o hm e => ⟨hs'.extBut b o (fun q => hm (q ▸ aM)) e, hm⟩
  rcases h with ⟨es, rfl, hs, rfl⟩ | ⟨vs, rfl, hs, rfl⟩
  · have hs := small_le hs
    cases r with
    | dict hsys dd re =>
      rename_i kvs
      have hnd : (kvs.map (·.1)).Nodup := by obtain ⟨_, _, _, _, _, _, _, _, hn⟩ := dd; exact hn
      refine wpAny_setItem_pairs (knd := intKind c.prog c.w) (k := k) (by simp [intKind, Value.isInt]) dd (fun h' hd' hs' => ?_) (by rw [re.length, sizeLine_eq]; omega)
      exact hQ h' _ hs' (I.touch_own hk ho hg hs' (.dict hsys hd' ((re.later (lt hs')).store (rw'.later (lt hs')) hnd k)))
  · simp only [Bool.and_eq_true, decide_eq_true_eq] at hs
    obtain ⟨⟨h0, h1⟩, h2⟩ := hs
    have h2 := small_le h2
    cases r with
    | list ex rs =>
      rename_i xs m
      have hlen := rs.length
      refine setItem_plain ex h0 (by omega) (by rw [List.size_toArray]; omega) fun h' hp hs' => ?_
      obtain ⟨n', hp⟩ := hp
      refine hQ h' s.toks hs' (I.touch_own hk ho hg hs' (.list (n := n') (xs := xs.set k.toNat wv) ?_ ((rs.later (lt hs')).set k.toNat (rw'.later (lt hs')))))
      rw [hp]
      simp

theorem ownsN_get {x : Str} (h : ownsN loc x = true) : ∃ w, getL loc x = some (w, true) := by
  unfold ownsN at h
  split at h
  · rename_i w hg; exact ⟨w, hg⟩
  · cases h

theorem tr_own {h h' h'' : Heap} {own' own'' : Own} {x : Str} {a : Addr} (k : KeepAll h h') (l : Less own' own) (ho : own' x = some a) (hs : Heap.SameBut a h' h'') : Tr f [] own h [] own' h'' := fun b o hm e =>
  ⟨hs.extBut b o (fun q => hm (.inr (.inr (.inl ⟨x, q ▸ l x a ho⟩)))) (k b o e), fun q => hm (Fm.Mu_sub l q)⟩

theorem exec_sub {x : Str} {xp p pos : Pos} {i e : Expr} {w iv : V} {l1 l2 : Loc} (S : Snd c ft R n) (e1 : Env1 c f) (r2 : Room2 A n) (I : Inv c f [] own loc s.heap) (h1 : val R f.sc e loc = some (w, l1)) (hown : ownsN l1 x = true) (h2 : pk R f.sc i l1 = some (iv, l2)) (h3 : putItem f.sc x iv w l2 = some loc') :
    ExOk c f A own (exec (.Assign [.Subscript (.Name x xp) i p] e pos) f.env) .next loc' s := by
  intro Q E q1 _ _
  obtain ⟨hk, u2, hg2⟩ := putItem_kind h3
  obtain ⟨u1, hg1⟩ := ownsN_get hown
  refine wpAny_Assign_Subscript ?_ (swaps_sub ..)
  refine val_ok S e1 r2 I h1 _ E fun wv h' tk' own' k l I' rw' => ?_
  obtain ⟨a, ho, _⟩ := own_at I' hk hg1
  refine load_own (s := { s with heap := h', toks := tk' }) e1 I' hk hg1 ho ?_
  refine pk_ok (s := { s with heap := h', toks := tk' }) S e1 r2 I' h2 _ E fun xv h'' tk'' own'' k2 l2' I'' ri => ?_
  obtain ⟨a2, ho2, _⟩ := own_at I'' hk hg2
  have : a2 = a := by have := l2' x a2 ho2; rw [ho] at this; exact (Option.some.inj this).symm
  subst this
  refine putItem_ok (s := { s with heap := h'', toks := tk'' }) I'' ho2 ri (rw'.later (later_less k2 l2')) h3 _ E fun h3 tk3 hs3 J => ?_
  exact q1 rfl h3 tk3 own'' (tr_own (own'' := own'') (k.trans k2) (l2'.trans l) ho2 hs3) J

theorem exec_augname {x : Str} {xp pos : Pos} {e : Expr} {a b : Int} {l1 : Loc} (S : Snd c ft R n) (e1 : Env1 c f) (r2 : Room2 A n) (I : Inv c f [] own loc s.heap) (hk : kindAt f.sc x = some .local) (hg : getL loc x = some (.int a, false)) (h1 : pk R f.sc e loc = some (.int b, l1)) (h2 : putN f.sc x (.int (a + b)) false l1 = some loc') :
    ExOk c f A own (exec (.AugAssign (.Name x xp) .Add e pos) f.env) .next loc' s := by
  intro Q E q1 _ _
  refine wpAny_AugAssign_Name ?_
  obtain ⟨m, F, hm⟩ := I.fr
  obtain ⟨xv, hx, hb⟩ := hm x _ _ hg hk
  unfold Bears at hb
  rw [if_neg (by decide)] at hb
  obtain ⟨t, rfl⟩ := hb.seen.int
  refine wpAny_loadName_local e1.kind (e1.loc x hk) F.ns hx ?_
  refine pk_ok S e1 r2 I h1 _ E fun y h' tk' own' k l I' ra => ?_
  obtain ⟨u, rfl⟩ := ra.int
  refine iadd_int ?_
  refine store_plain (s := { s with heap := h', toks := tk' + 1 }) e1 I' (.int (a + b) tk') h2 (.inl rfl) _ E fun h2 tk2 own2 kb l2 J => ?_
  exact q1 rfl h2 tk2 own2 ((Tr.of k l).trans (kb.tr (Mu_less l2))) J

/-- the object of a subscription -/
theorem getItem_ok {a b : V} {x y : Value} (ra : Seen c s.heap (f.M [] own) a x) (rb : Seen c s.heap (f.M [] own) b y) {i : Int} (h : itemV a b = some (.int i)) (Q : Value → Shared → Prop) (E : Value → Shared → Prop) (hQ : ∀ t tk, Q (.int i t) { s with toks := tk }) :
    wpAny (model c.prog c.w) A (getItem x y) Q E s := by
  obtain ⟨k, rfl, h'⟩ := inv_item h
  clear h
  obtain ⟨u, rfl⟩ := rb.int
  rcases h' with ⟨vs, rfl, h⟩ | ⟨vs, rfl, h⟩ | ⟨es, rfl, h⟩ | ⟨st, rfl, h⟩
  · obtain ⟨hf, h⟩ := if1 h
    simp only [Bool.and_eq_true, decide_eq_true_eq] at hf
    obtain ⟨l, xs, n, rfl, e1, r1⟩ := ra.list
    obtain ⟨z, hz, rz⟩ := r1.get h
    obtain ⟨t, rfl⟩ := rz.seen.int
    exact wpAny_getItem_list (list_obj e1) hf.1 (by omega) (by simpa using hz) (hQ t s.toks)
  · obtain ⟨hf, h⟩ := if1 h
    simp only [Bool.and_eq_true, decide_eq_true_eq] at hf
    obtain ⟨l, xs, n, rfl, e1, r1⟩ := ra.tup
    obtain ⟨z, hz, rz⟩ := r1.get h
    obtain ⟨t, rfl⟩ := rz.seen.int
    exact getItem_tuple (j := k.toNat) ⟨_, e1, rfl, n, rfl⟩ (by omega) (by omega) (seq_at hf.1 (lt_of_get hz)) (by simpa using hz) (hQ t s.toks)
  · obtain ⟨a1, ka, rfl, la, da, raE⟩ := ra.dict
    rcases raE.look k with ⟨h1, _⟩ | ⟨w, z, h1, h2, h3⟩
    · rw [h1] at h; exact no h
    · rw [h1] at h
      obtain rfl := some1 h
      obtain ⟨t, rfl⟩ := h3.seen.int
      exact wpAny_getItem_of (knd := intKind c.prog c.w) (k := k) (by simp [intKind, Value.isInt]) da.mapOf h2 (hQ t _)
  · obtain ⟨hf, h⟩ := if1 h
    obtain ⟨ch, hc, hv⟩ := Option.map_eq_some_iff.mp h
    cases hv

theorem aug_of {i : Expr} (h : notSlice i = true) (ov iv new : Value) : augStore i ov iv new = (do holding [new, ov, iv] (setItem ov iv new); release [new, ov, iv] []; pure .next) := by
  cases i with
  | Slice a b d p =>
    cases d with
    | none => exact absurd h Bool.false_ne_true
    | some _ => rfl
  | _ => rfl

theorem exec_augsub {x : Str} {xp p pos : Pos} {i e : Expr} {ov iv : V} {a b : Int} {l1 l2 : Loc} (S : Snd c ft R n) (e1 : Env1 c f) (r2 : Room2 A n) (I : Inv c f [] own loc s.heap) (hk : kindAt f.sc x = some .local) (hg : getL loc x = some (ov, true)) (h1 : pk R f.sc i loc = some (iv, l1))
    (h2 : itemV ov iv = some (.int a)) (h3 : pk R f.sc e l1 = some (.int b, l2)) (h4 : putItem f.sc x iv (.int (a + b)) l2 = some loc') : ExOk c f A own (exec (.AugAssign (.Subscript (.Name x xp) i p) .Add e pos) f.env) .next loc' s := by
  intro Q E q1 _ _
  obtain ⟨_, u2, hg2⟩ := putItem_kind h4
  refine wpAny_AugAssign_Subscript_any ?_ (aug_of (pk_notSlice S h1))
  obtain ⟨ad, ho, r0⟩ := own_at I hk hg
  refine load_own e1 I hk hg ho ?_
  refine pk_ok S e1 r2 I h1 _ E fun y h' tk' own' k l I' ri => ?_
  have ro : Seen c h' (f.M [] own') ov (.ref ad) := .inr ⟨ad, rfl, r0.later (later_less k l) (k ad)⟩
  refine getItem_ok (s := { s with heap := h', toks := tk' }) ro ri h2 _ E fun t tk => ?_
  refine pk_ok (s := { s with heap := h', toks := tk }) S e1 r2 I' h3 _ E fun z h2 tk2 own2 k2 l2' I2 rb => ?_
  obtain ⟨u, rfl⟩ := rb.int
  refine iadd_int ?_
  obtain ⟨a2, ho2, _⟩ := own_at I2 hk hg2
  have : a2 = ad := by have := l x a2 (l2' x a2 ho2); rw [ho] at this; exact (Option.some.inj this).symm
  subst this
  refine putItem_ok (s := { s with heap := h2, toks := tk2 + 1 }) I2 ho2 (seen_later k2 l2' ri) (.int (a + b) tk2) h4 _ E fun h3 tk3 hs3 J => ?_
  exact q1 rfl h3 tk3 own2 (tr_own (own'' := own2) (k.trans k2) (l2'.trans l) ho2 hs3) J

theorem ExOk.behind {t : Sem Flow} {fl : Fl} {own1 : Own} {h1 : Heap} {tk1 : Nat} (tr : Tr f [] own s.heap [] own1 h1) (h : ExOk c f A own1 t fl loc' { s with heap := h1, toks := tk1 }) {Q : Flow → Shared → Prop} {E : Value → Shared → Prop}
    (q1 : fl = .next → ∀ h' tk' own', Tr f [] own s.heap [] own' h' → Inv c f [] own' loc' h' → Q .next { s with heap := h', toks := tk' })
    (q2 : ∀ v, fl = .ret v false → ∀ x h' tk' own', Tr f [] own s.heap [] own' h' → Inv c f [] own' loc' h' → Rep c h' (f.M [] own') v x → Q (.ret x) { s with heap := h', toks := tk' })
    (q3 : ∀ v, fl = .ret v true → ∀ a h' tk' own', Tr f [] own s.heap [a] own' h' → Inv c f [a] own' loc' h' → Root c h' (f.M [a] own') a v → Q (.ret (.ref a)) { s with heap := h', toks := tk' }) :
    wpAny (model c.prog c.w) A t Q E { s with heap := h1, toks := tk1 } :=
  h Q E (fun e h' tk' own' tr' I => q1 e h' tk' own' (tr.trans tr') I) (fun v e x h' tk' own' tr' I r => q2 v e x h' tk' own' (tr.trans tr') I r) fun v e a h' tk' own' tr' I r => q3 v e a h' tk' own' (tr.trans tr') I r

/-- the statements -/
theorem ExOk.of {t : Sem Flow} {fl fl' : Fl} {l2 : Loc} (h : some (fl', l2) = some (fl, loc')) (r : ExOk c f A own t fl' l2 s) : ExOk c f A own t fl loc' s := by cases h; exact r
theorem step_tuple {ts : List Expr} {k : Nat} {p pos : Pos} {e : Expr} {fl : Fl} (S : Snd c ft R n) (e1 : Env1 c f) (r3 : Room2 A n) (I : Inv c f [] own loc s.heap) (hne : ∀ es k' p', e ≠ .Tuple es k' p') (h : (do
    let (v, loc) ← val R f.sc e loc
    let vs ← itemsOf v
    let loc ← putNs f.sc ts (vs.map fun v => (v, false)) loc
    some (.next, loc)) = some (fl, loc')) : ExOk c f A own (exec (.Assign [.Tuple ts k p] e pos) f.env) fl loc' s := by
  obtain ⟨w, l1, h1, h⟩ := bs2 h
  obtain ⟨vs, h2, h⟩ := bs1 h
  obtain ⟨l2, h3, h⟩ := bs1 h
  exact .of h (exec_tuple S e1 r3 I hne h1 h2 h3)
theorem step_assign {ts : List Expr} {e : Expr} {pos : Pos} {fl : Fl} (S : Snd c ft R n) (tp : Top1 c ft) (e1 : Env1 c f) (r3 : Room2 A n) (I : Inv c f [] own loc s.heap) (h : execStep R f.sc (.Assign ts e pos) loc = some (fl, loc')) : ExOk c f A own (exec (.Assign ts e pos) f.env) fl loc' s := by
  cases ts with
  | nil => exact no h
  | cons t r =>
    cases r with
    | cons _ _ => cases t with
      | Subscript o i p => cases o <;> exact no h
      | _ => exact no h
    | nil =>
      cases t with
      | Name x p =>
        obtain ⟨w, b, l1, h1, h⟩ := bs3 h
        obtain ⟨l2, h2, h⟩ := bs1 h
        exact .of h (exec_assign S tp e1 r3 I h1 h2)
      | Tuple ts k p =>
        cases e with
        | Tuple es k' p' =>
          obtain ⟨hc, h⟩ := if1 h
          simp only [Bool.and_eq_true, decide_eq_true_eq, beq_iff_eq, Bool.not_eq_true'] at hc
          obtain ⟨⟨⟨⟨c1, c2⟩, c3⟩, c4⟩, c5⟩ := hc
          obtain ⟨vs, l1, h1, h⟩ := bs2 h
          obtain ⟨l2, h2, h⟩ := bs1 h
          exact .of h (exec_tuplelit S e1 r3 I c1 c2 c3 c4 c5 h1 h2)
        | _ => exact step_tuple S e1 r3 I (fun _ _ _ q => nomatch q) h
      | Subscript o i p =>
        cases o with
        | Name x xp =>
          obtain ⟨w, l1, h1, h⟩ := bs2 h
          obtain ⟨ho, h⟩ := if1 h
          obtain ⟨k, l2, h2, h⟩ := bs2 h
          obtain ⟨l3, h3, h⟩ := bs1 h
          exact .of h (exec_sub S e1 r3 I h1 ho h2 h3)
        | _ => exact no h
      | _ => exact no h
theorem step_aug {t e : Expr} {op : Operator} {pos : Pos} {fl : Fl} (S : Snd c ft R n) (tp : Top1 c ft) (e1 : Env1 c f) (r3 : Room2 A n) (I : Inv c f [] own loc s.heap) (h : execStep R f.sc (.AugAssign t op e pos) loc = some (fl, loc')) : ExOk c f A own (exec (.AugAssign t op e pos) f.env) fl loc' s := by
  cases t with
  | Name x p =>
    cases op with
    | Add =>
      obtain ⟨a, hk, hg, h⟩ := inv_augn h
      obtain ⟨w, l1, h1, h⟩ := bs2 h
      obtain ⟨i, rfl, h⟩ := inv_int h
      obtain ⟨l2, h2, h⟩ := bs1 h
      exact .of h (exec_augname S e1 r3 I hk hg h1 h2)
    | _ => exact no h
  | Subscript o i p =>
    cases o with
    | Name x xp =>
      cases op with
      | Add =>
        obtain ⟨a, hk, hg, h⟩ := inv_augs h
        obtain ⟨k, l1, h1, h⟩ := bs2 h
        obtain ⟨old, h2, h⟩ := bs1 h
        obtain ⟨w, l2, h3, h⟩ := bs2 h
        obtain ⟨i, j, rfl, rfl, h⟩ := inv_intint h
        obtain ⟨l3, h4, h⟩ := bs1 h
        exact .of h (exec_augsub S e1 r3 I hk hg h1 h2 h3 h4)
      | _ => exact no h
    | _ => exact no h
  | _ => exact no h
theorem step_return {e : Expr} {w : V} {b : Bool} {pos : Pos} (S : Snd c ft R n) (e1 : Env1 c f) (r3 : Room2 A n) (I : Inv c f [] own loc s.heap) (h1 : R.ev f.sc e loc = some (w, b, loc')) : ExOk c f A own (exec (.Return (some e) pos) f.env) (.ret w b) loc' s := by
  intro Q E q1 q2 q3
  refine wpAny_Return_some (S.ev e1 r3 I h1 _ E fun x h' tk' own' k l g0 g1 => ?_)
  cases b with
  | false => exact q2 w rfl x h' tk' own' (Tr.of k l) (g0 rfl).1 (g0 rfl).2
  | true =>
    obtain ⟨a, rfl, I', r, q⟩ := g1 rfl
    refine q3 w rfl a h' tk' own' (fun d o hm ed => ⟨k d o ed, fun qd => ?_⟩) I' r
    rcases qd with qd | qd | ⟨y, qd⟩ | qd
    · exact hm (.inl qd)
    · exact hm (.inr (.inl qd))
    · exact hm (.inr (.inr (.inl ⟨y, l y d qd⟩)))
    · rw [List.mem_singleton] at qd
      subst qd
      rcases q with q | q | q
      · rw [q] at ed; cases ed
      · exact (I'.tmp d (.head _)).X q
      · exact hm q
theorem step_exec {st : Stmt} {fl : Fl} (S : Snd c ft R n) (tp : Top1 c ft) (e1 : Env1 c f) (r2 : Room2 A (n + 1)) (I : Inv c f [] own loc s.heap) (h : execStep R f.sc st loc = some (fl, loc')) : ExOk c f A own (exec st f.env) fl loc' s := by
  have r3 := r2.less (Nat.le_succ n)
  cases st with
  | Assign ts e p => exact step_assign S tp e1 r3 I h
  | AugAssign t op e p => exact step_aug S tp e1 r3 I h
  | For t it body els p =>
    cases els with
    | cons _ _ => exact no h
    | nil =>
      obtain ⟨ht, h⟩ := if1 h
      obtain ⟨items, l1, h1, h⟩ := bs2 h
      exact exec_forW S tp e1 r3 I ht h1 h
  | If t a b p =>
    obtain ⟨b, l1, h1, h2⟩ := bs2 h
    intro Q E q1 q2 q3
    refine wpAny_If (S.tst e1 r3 I h1 _ E fun h' tk' own' k l I' => ?_)
    cases b with
    | true => exact ExOk.behind (Tr.of k l) (S.execs (s := { s with heap := h', toks := tk' }) e1 r3 I' h2) q1 q2 q3
    | false => exact ExOk.behind (Tr.of k l) (S.execs (s := { s with heap := h', toks := tk' }) e1 r3 I' h2) q1 q2 q3
  | Return e p =>
    cases e with
    | none => exact no h
    | some e =>
      obtain ⟨w, b, l1, h1, h⟩ := bs3 h
      exact .of h (step_return S e1 r3 I h1)
  | _ => exact no h

theorem step_execs {l : List Stmt} {fl : Fl} (S : Snd c ft R n) (e1 : Env1 c f) (r2 : Room2 A (n + 1)) (I : Inv c f [] own loc s.heap) (h : execsStep R f.sc l loc = some (fl, loc')) : ExOk c f A own (execs l f.env) fl loc' s := by
  have r3 := r2.less (Nat.le_succ n)
  cases l with
  | nil => exact .of h fun Q E q1 _ _ => wpAny_execs_nil (q1 rfl s.heap s.toks own (fun a o hm e => ⟨e, hm⟩) I)
  | cons st r =>
    replace h : (match R.exec f.sc st loc with | some (.next, loc') => R.execs f.sc r loc' | x => x) = some (fl, loc') := h
    cases hx : R.exec f.sc st loc with
    | none => rw [hx] at h; exact no h
    | some p =>
      obtain ⟨fl1, l1⟩ := p
      rw [hx] at h
      clear r2
      intro Q E q1 q2 q3
      refine wpAny_execs_cons ?_
      cases fl1 with
      | next =>
        replace h : R.execs f.sc r l1 = some (fl, loc') := h
        exact S.exec e1 r3 I hx _ E (fun e h' tk' own' tr I' => ExOk.behind tr (S.execs (s := { s with heap := h', toks := tk' }) e1 r3 I' h) q1 q2 q3) (fun w e => nomatch e) (fun w e => nomatch e)
      | ret w b =>
        replace h : some (Fl.ret w b, l1) = some (fl, loc') := h
        obtain ⟨rfl, rfl⟩ := some2 h
        exact S.exec e1 r3 I hx _ E (fun e => nomatch e) (fun w e x h' tk' own' tr I' r => q2 w e x h' tk' own' tr I' r) (fun w e a h' tk' own' tr I' r => q3 w e a h' tk' own' tr I' r)
end
end Mine
end
/-! Stp4 -/
section
set_option maxRecDepth 100000
set_option linter.unusedVariables false
namespace Mine
open PySem PySem.W PyProof.Rows

theorem bindL_eq {kindOf : Str → Option NameKind} {x : Str} (hx : kindOf x = some .local) : ∀ (l : List (Str × Value)) (m : Str → Option Value), (l.map (·.1)).Nodup → PySem.bindL kindOf l m x = (l.lookup x).or (m x)
  | [], m, _ => rfl
  | (n, v) :: r, m, h => by
    rw [List.map_cons, List.nodup_cons] at h
    rw [PySem.bindL, bindL_eq hx r _ h.2, List.lookup_cons]
    by_cases q : x = n
    · subst q
      rw [if_pos hx]
      have : r.lookup x = Option.none := by
        cases e : r.lookup x with
        | none => rfl
        | some w => exact absurd (List.mem_map.mpr ⟨(x, w), lookup_mem e, rfl⟩) h.1
      simp [this]
    · have e : (x == n) = false := by simpa using q
      rw [e]
      split <;> simp [q]
theorem bindC_eq {kindOf : Str → Option NameKind} {x : Str} (hx : ¬ kindOf x = some .local) : ∀ (l : List (Str × Value)) (m : Str → Option Value), (l.map (·.1)).Nodup → PySem.bindC kindOf l m x = (l.lookup x).or (m x)
  | [], m, _ => rfl
  | (n, v) :: r, m, h => by
    rw [List.map_cons, List.nodup_cons] at h
    rw [PySem.bindC, bindC_eq hx r _ h.2, List.lookup_cons]
    by_cases q : x = n
    · subst q
      rw [if_neg hx]
      have : r.lookup x = Option.none := by
        cases e : r.lookup x with
        | none => rfl
        | some w => exact absurd (List.mem_map.mpr ⟨(x, w), lookup_mem e, rfl⟩) h.1
      simp [this]
    · have e : (x == n) = false := by simpa using q
      rw [e]
      split <;> simp [q]

theorem zip_look {c : Cx} {h : Heap} {M : Addr → Prop} {vs : List V} {xs : List Value} (r : Reps c h M vs xs) : ∀ {ps : List Str} {x : Str} {v : V}, (ps.zip vs).lookup x = some v → ∃ xv, (ps.zip xs).lookup x = some xv ∧ Rep c h M v xv := by
  induction vs generalizing xs with
  | nil => intro ps x v e; simp at e
  | cons w vs ih =>
    intro ps x v e
    cases r with
    | cons a r =>
      cases ps with
      | nil => simp at e
      | cons p ps =>
        simp only [List.zip_cons_cons, List.lookup_cons] at e ⊢
        by_cases q : x = p
        · subst q
          simp at e ⊢
          subst e; exact a
        · have q' : (x == p) = false := by simpa using q
          rw [q'] at e ⊢
          exact ih r e

theorem cellsFrom_some {n : Str} : ∀ {names : List (Str × NameKind)} {k : Nat} {acc : List (Str × Addr)}, ((n, NameKind.cell) ∈ names ∨ (acc.lookup n).isSome = true) → ((cellsFrom k names acc).lookup n).isSome = true
  | [], k, acc, h => h.elim (fun h => nomatch h) id
  | (m, kd) :: r, k, acc, h => by
    unfold cellsFrom
    by_cases hk : kd = .cell
    · subst hk
      simp only [beq_self_eq_true, if_true]
      refine cellsFrom_some ?_
      rcases h with h | h
      · rcases List.mem_cons.mp h with e | h
        · cases e; exact .inr (by simp)
        · exact .inl h
      · refine .inr ?_
        rw [List.lookup_cons]
        split
        · rfl
        · exact h
    · have : (kd == NameKind.cell) = false := by simpa using hk
      simp only [this, Bool.false_eq_true, if_false]
      refine cellsFrom_some ?_
      rcases h with h | h
      · rcases List.mem_cons.mp h with e | h
        · cases e; exact absurd rfl hk
        · exact .inl h
      · exact .inr h

structure ScopeOk (sc : Scope) : Prop where
  k1 : sc.kind = .function
  gen : sc.isGenerator = false
  co : sc.isCoroutine = false
  kinds : ∀ n k, (n, k) ∈ sc.names → (k = .local ∨ k = .cell ∨ k = .globalImplicit) ∧ sc.names.lookup n = some k ∧ (n == Str.ofString "__debug__") = false

theorem okScope_of {sc : Scope} (h : okScope sc = true) : ScopeOk sc := by
  unfold okScope at h
  simp only [Bool.and_eq_true, List.all_eq_true, beq_iff_eq, Bool.not_eq_true'] at h
  obtain ⟨⟨⟨h1, h2⟩, h3⟩, h4⟩ := h
  refine ⟨h1, h2, h3, fun n k hm => ?_⟩
  have := h4 (n, k) hm
  simp only [Bool.and_eq_true, Bool.or_eq_true, beq_iff_eq, bne_iff_ne, ne_eq] at this
  obtain ⟨⟨a, b⟩, d⟩ := this
  refine ⟨?_, b, by simpa using d⟩
  rcases a with (a | a) | a
  · exact .inl a
  · exact .inr (.inl a)
  · exact .inr (.inr a)

theorem fLoc_lookup {fd : FD} {vs : List V} : ∀ {names : List (Str × NameKind)} {x : Str} {q : Option (V × Bool)}, (names.filterMap fun (n, k) => if k == .local || k == .cell then some (n, Mine.bindL fd.params vs n) else Option.none).lookup x = some q → q = Mine.bindL fd.params vs x
  | [], x, q, h => by simp at h
  | (n, k) :: r, x, q, h => by
    rw [List.filterMap_cons] at h
    dsimp only at h
    by_cases hk : (k == NameKind.local || k == NameKind.cell) = true
    · rw [if_pos hk] at h
      dsimp only at h
      rw [List.lookup_cons] at h
      by_cases e : x = n
      · subst e; simp at h; exact h.symm
      · have e' : (x == n) = false := by simpa using e
        rw [e'] at h; exact fLoc_lookup h
    · rw [if_neg hk] at h
      exact fLoc_lookup h
theorem fLoc_get {fd : FD} {vs : List V} {x : Str} {v : V} {b : Bool} (h : getL (fLoc fd vs) x = some (v, b)) : (fd.params.zip vs).lookup x = some v ∧ b = false := by
  unfold getL at h
  split at h
  · rename_i p hp
    cases h
    have := fLoc_lookup hp
    unfold Mine.bindL at this
    obtain ⟨w, hw, he⟩ := Option.map_eq_some_iff.mp this.symm
    cases he
    exact ⟨hw, rfl⟩
  · cases h

section
variable {c : Cx} {ft : Str → Option FD} {R : Ev} {n : Nat}

/-- the calls -/
theorem step_call {g : Str} {fd : FD} {a : Addr} {F : FuncData} (S : Snd c ft R n) (tp : Top1 c ft) (hg : ft g = some fd) (fa : FnAt c fd a F) : CallOk c (step R ft) (n + 1) g a := by
  intro vs v b h A s M xs r2 hkeep hsize hM rs Q E hQ
  have h' : callStep R ft g vs = some (v, b) := h
  unfold callStep at h'
  rw [hg] at h'
  dsimp only at h'
  split at h'
  · rename_i hok
    simp only [Bool.and_eq_true, beq_iff_eq, decide_eq_true_eq, List.all_eq_true, Bool.or_eq_true] at hok
    obtain ⟨⟨⟨hsc, hlen⟩, hnd⟩, hpk⟩ := hok
    have SO := okScope_of hsc
    cases hx : R.execs fd.scope fd.body (fLoc fd vs) with
    | none => rw [hx] at h'; simp at h'
    | some p =>
      obtain ⟨fl, lf⟩ := p
      rw [hx] at h'
      cases fl with
      | next => simp at h'
      | ret v' b' =>
        cases h'
        have hxs : xs.length = fd.params.length := by rw [rs.length, hlen]
        obtain ⟨o, hbase, hdata⟩ := fa.at_
        have hsc' : F.scope = fd.scope := fa.scope
        have hkeys : ((fd.params.zip xs).map (·.1)).Nodup := by
          rw [List.map_fst_zip (by omega)]; exact hnd
        have hkp : ∀ p ∈ fd.params, F.scope.names.lookup p = some .local ∨ F.scope.names.lookup p = some .cell := fun p hp => by rw [hsc']; exact hpk p hp
        have hcellSome : ∀ x, F.scope.names.lookup x = some .cell → ((cellsFrom (s.heap.objs.size + 1) F.scope.names []).lookup x).isSome = true := fun x hx => cellsFrom_some (.inl (lookup_mem hx))
        refine wpAny_call (codeAny_call_cells (body := fd.body) (binds := fd.params.zip xs) (fd := F) (by have := r2.dp; omega) (hkeep a o hbase) hdata (tp.nolimit.keeps hkeep) (fa.code.keeps hkeep) fa.body (fa.bind xs hxs) fa.clo (fun x hx => ?_) (fun s₁ X => ?_) (by rw [hsc']; exact SO.co) (by rw [hsc']; exact SO.gen) (by rw [hsc']; exact SO.k1))
        · have hp : x.1 ∈ fd.params := by
            have := List.mem_map_of_mem (f := fun x : Str × Value => x.1) hx
            rw [List.map_fst_zip (by omega)] at this; exact this
          rcases hkp x.1 hp with h | h
          · exact .inl h
          · exact .inr ⟨h, hcellSome _ h⟩
        · generalize hE : callEnvC F s.heap.objs.size a = env at X ⊢
          have eL : env.locals = s.heap.objs.size := by rw [← hE]; rfl
          have eS : env.scope = fd.scope := by rw [← hE, ← hsc']; rfl
          have eG : env.globals = mainGlobals := by rw [← hE, ← fa.glob]; rfl
          have eB : env.builtins = builtinsNs := by rw [← hE, ← fa.built]; rfl
          have eC : env.cells = cellsFrom (s.heap.objs.size + 1) F.scope.names [] := by rw [← hE]; rfl
          have ekind : ∀ x, env.kindOf x = kindAt fd.scope x := fun x => by unfold Env.kindOf kindAt; rw [eS]
          obtain ⟨h₁, tk₁, rfl⟩ := X.toInCall.same
          have keep1 : KeepAll s.heap h₁ := X.toInCall.keep
          have sL : s.heap.get? env.locals = Option.none := by rw [eL]; exact none_at_end _
          have above : ∀ x k, env.cells.lookup x = some k → env.locals < k := fun x k q => X.above x k (mem_of_lookup q)
          have sK : ∀ x k, env.cells.lookup x = some k → s.heap.get? k = Option.none := fun x k q => by
            cases e : s.heap.get? k with
            | none => rfl
            | some o =>
              have h1 := Heap.lt_size e
              have h2 := above x k q
              rw [eL] at h2
              exact absurd h1 (Nat.not_lt.mpr (Nat.le_of_lt h2))
          let f : Fm := { sc := fd.scope, env := env, mc := fd.scope.names.filterMap fun p => env.cells.lookup p.1, fc := [], X := M }
          have hmc : ∀ k, k ∈ f.mc ↔ ∃ x kd, (x, kd) ∈ fd.scope.names ∧ env.cells.lookup x = some k := fun k => by
            constructor
            · intro hk
              obtain ⟨p, hp, hq⟩ := List.mem_filterMap.mp hk
              exact ⟨p.1, p.2, hp, hq⟩
            · rintro ⟨x, kd, hp, hq⟩
              exact List.mem_filterMap.mpr ⟨(x, kd), hp, hq⟩
          have noFree : ∀ x, kindAt fd.scope x = some .free → False := fun x q => by
            rcases (SO.kinds x .free (lookup_mem q)).1 with h | h | h <;> cases h
          have e1 : Env1 c f := by
            refine ⟨by rw [show f.env.scope = fd.scope from eS]; exact SO.k1, eG, eB, fun x q => (ekind x).trans q, fun x q => (ekind x).trans q, fun x q => (noFree x q).elim, fun x q => (ekind x).trans q, fun x y k q1 q2 => ?_, SO.k1, by rw [show f.env.scope = fd.scope from eS], (fun a ha => (nomatch ha)), fun x q => ?_⟩
            · exact name_of_addr X.apart (mem_of_lookup q1) (mem_of_lookup q2)
            · obtain ⟨k', hk⟩ := Option.isSome_iff_exists.mp q
              exact (SO.kinds x k' (lookup_mem hk)).2.2
          have cellSome : ∀ x, kindAt fd.scope x = some .cell → ∃ k, env.cells.lookup x = some k ∧ k ∈ f.mc := fun x q => by
            have := hcellSome x (by rw [hsc']; exact q)
            rw [← eC] at this
            obtain ⟨k, hk⟩ := Option.isSome_iff_exists.mp this
            exact ⟨k, hk, (hmc k).mpr ⟨x, .cell, lookup_mem q, hk⟩⟩
          have l : Later s.heap M h₁ (f.M [] noneOwn) := fun d o hm e => ⟨keep1 d o e, fun q => by
            rcases q with q | q | q | ⟨x, q⟩ | q
            · exact hm q
            · rw [q, show s.heap.get? f.env.locals = none from sL] at e; cases e
            · obtain ⟨x, kd, _, hq⟩ := (hmc d).mp q
              rw [sK x d hq] at e; cases e
            · cases q
            · cases q⟩
          have I : Inv c f [] noneOwn (fLoc fd vs) h₁ := by
            refine ⟨⟨_, ⟨X.toInCall.ns, fun b o e => keep1 b o (hkeep b o e), by rw [show f.env.locals = _ from eL]; exact hsize⟩, fun x w d hgx hk => ?_⟩, fun x w d hgx hk => ?_, fun x hx hk => ?_, (fun x a e => (nomatch e)), (fun x y a e => (nomatch e)), (fun a ha => (nomatch ha)), List.nodup_nil, ?_, ?_, fun k hk => ?_, fun d hd => ?_⟩
            · obtain ⟨hz, rfl⟩ := fLoc_get hgx
              obtain ⟨xv, hxv, hr⟩ := zip_look rs hz
              refine ⟨xv, ?_, by unfold Bears; rw [if_neg (by decide)]; exact hr.later l⟩
              rw [bindL_eq ((ekind x).trans hk) _ _ hkeys, hxv]; rfl
            · rcases hk with hk | hk
              · obtain ⟨hz, rfl⟩ := fLoc_get hgx
                obtain ⟨xv, hxv, hr⟩ := zip_look rs hz
                obtain ⟨k, hk1, hk2⟩ := cellSome x hk
                refine ⟨rfl, k, xv, hk1, .inl hk2, ?_, hr.later l⟩
                have := X.cell x k hk1
                rw [bindC_eq (by rw [ekind x, show kindAt fd.scope x = some .cell from hk]; decide) _ _ hkeys, hxv] at this
                exact this
              · exact (noFree x hk).elim
            · obtain ⟨k, hk1, hk2⟩ := cellSome x hk
              exact ⟨k, _, hk1, hk2, X.cell x k hk1⟩
            · exact fun q => by obtain ⟨o, e⟩ := hM _ q; rw [show s.heap.get? f.env.locals = none from sL] at e; cases e
            · exact fun q => by
                obtain ⟨x, kd, _, hq⟩ := (hmc _).mp q
                exact Nat.lt_irrefl _ (above x _ hq)
            · obtain ⟨x, kd, _, hq⟩ := (hmc k).mp hk
              refine ⟨none_of_keep hkeep (sK x k hq), ?_, fun q => ?_⟩
              · obtain ⟨o, e, _⟩ := X.cell x k hq
                exact ⟨o, e⟩
              · obtain ⟨o, e⟩ := hM k q
                rw [sK x k hq] at e; cases e
            · obtain ⟨o, e⟩ := hM d hd
              exact ⟨o, keep1 d o e⟩
          have r3 : Room2 (A.deeper env) n := ⟨r2.hd, by have := r2.dp; show A.depth + 1 + n + 10 < _; omega, by have := r2.un; show _ + 8 * n + 80 < _; simp [Around.deeper]; omega⟩
          have kAll : ∀ {T' : List Addr} {own' : Own} {h2 : Heap}, Tr f [] noneOwn h₁ T' own' h2 → KeepAll s.heap h2 := fun tr d o e => (tr d o (fun q => by
            rcases q with q | q | ⟨x, q⟩ | q
            · rw [q, show s.heap.get? f.env.locals = none from sL] at e; cases e
            · obtain ⟨x, kd, _, hq⟩ := (hmc d).mp q
              rw [sK x d hq] at e; cases e
            · cases q
            · cases q) (keep1 d o e)).1
          refine S.execs (f := f) (s := { s with heap := h₁, toks := tk₁ }) e1 r3 I hx _ _ (fun q => nomatch q) (fun w e x h2 tk2 own2 tr I2 r => ?_) (fun w e ad h2 tk2 own2 tr I2 r => ?_)
          · cases e
            exact hQ x h2 tk2 (kAll tr) (fun _ => r.later fun d o hm e => ⟨e, fun q => hm (.inl q)⟩) fun q => nomatch q
          · cases e
            have hq := I2.tmp ad (.head _)
            have hn1 : h₁.get? ad = Option.none := by
              cases e : h₁.get? ad with
              | none => rfl
              | some o =>
                refine absurd (.inr (.inr (.inr (.head _)))) (tr ad o (fun q => ?_) e).2
                rcases q with q | q | ⟨x, q⟩ | q
                · exact hq.loc q
                · exact hq.mc q
                · cases q
                · cases q
            exact hQ _ h2 tk2 (kAll tr) (fun q => nomatch q) fun _ => ⟨ad, rfl, none_of_keep keep1 hn1, hq.base, r.later (fun d o hm e => ⟨e, fun q => hm (q.elim .inl fun q => .inr (.inr (.inr (.inr (q ▸ .head _)))))⟩) fun _ e => e⟩
  · cases h'

theorem snd_bot : Snd c ft Ev.bot n where
  noStar := fun _ _ _ _ => rfl
  noSlice := fun _ _ _ _ _ _ => rfl
  noSet := fun _ _ _ _ _ => rfl
  noSetC := fun _ _ _ _ _ _ => rfl
  noDictC := fun _ _ _ _ _ _ _ => rfl
  use := fun _ _ _ h => nomatch h
  ev := fun _ _ _ h => nomatch h
  tst := fun _ _ _ h => nomatch h
  exec := fun _ _ _ h => nomatch h
  execs := fun _ _ _ h => nomatch h
  call := fun _ _ _ _ _ _ _ _ _ h => nomatch h
  callft := fun _ _ _ h => nomatch h

theorem snd_step {R : Ev} (S : Snd c ft R n) (tp : Top1 c ft) : Snd c ft (step R ft) (n + 1) where
  noStar := fun _ _ _ _ => rfl
  noSlice := fun _ _ _ _ _ _ => rfl
  noSet := fun _ _ _ _ _ => rfl
  noSetC := fun _ _ _ _ _ _ => rfl
  noDictC := fun _ _ _ _ _ _ _ => rfl
  use := fun e1 r2 I h => by
    have h : (do
      let (v, loc) ← listComp R _ _ _ _ _
      some (v, false, loc)) = some (_, _, _) := h
    obtain ⟨⟨w, l1⟩, h1, h2⟩ := Option.bind_eq_some_iff.mp h
    cases h2
    exact ⟨rfl, use_listcomp S tp e1 (r2.less (Nat.le_succ n)) I h1⟩
  ev := fun e1 r2 I h => step_ev S tp e1 r2 I h
  tst := fun e1 r2 I h => step_tst S tp e1 r2 I h
  exec := fun e1 r2 I h => step_exec S tp e1 r2 I h
  execs := fun e1 r2 I h => step_execs S e1 r2 I h
  call := fun g fd a F hg fa => step_call S tp hg fa
  callft := fun g vs r h => by
    have h : callStep R ft g vs = some r := h
    unfold callStep at h
    split at h
    · rename_i fd hfd; exact ⟨fd, hfd⟩
    · cases h

theorem snd_at (tp : Top1 c ft) : ∀ n, Snd c ft (Ev.at ft n) n
  | 0 => snd_bot
  | n + 1 => snd_step (snd_at tp n) tp
end
end Mine
end
/-! Tp0 -/
section
set_option maxRecDepth 100000
set_option linter.unusedVariables false
namespace Mine
open PySem PySem.W PyProof.Rows

theorem zip_lookup_isSome : ∀ {ps : List Str} {xs : List Value}, xs.length = ps.length → ∀ n ∈ ps, ((ps.zip xs).lookup n).isSome = true
  | [], _, _, n, h => nomatch h
  | p :: ps, [], h, _, _ => by simp at h
  | p :: ps, x :: xs, h, n, hn => by
    rw [List.zip_cons_cons, List.lookup_cons]
    by_cases q : n = p
    · subst q; simp
    · have e : (n == p) = false := by simpa using q
      rw [e]
      exact zip_lookup_isSome (by simpa using h) n ((List.mem_cons.mp hn).resolve_left q)

theorem filterMap_congr' {α β : Type} {f g : α → Option β} : ∀ {l : List α}, (∀ a ∈ l, f a = g a) → l.filterMap f = l.filterMap g
  | [], _ => rfl
  | a :: l, h => by
    rw [List.filterMap_cons, List.filterMap_cons, h a (.head _), filterMap_congr' fun b hb => h b (.tail _ hb)]
theorem zip_filterMap : ∀ {ps : List Str} {xs : List Value}, xs.length = ps.length → ps.Nodup → (ps.filterMap fun n => ((ps.zip xs).lookup n).map (n, ·)) = ps.zip xs
  | [], _, _, _ => by simp
  | p :: ps, [], h, _ => by simp at h
  | p :: ps, x :: xs, h, hn => by
    rw [List.nodup_cons] at hn
    have ih := zip_filterMap (ps := ps) (xs := xs) (by simpa using h) hn.2
    have : (ps.filterMap fun n => (((p :: ps).zip (x :: xs)).lookup n).map (n, ·)) = ps.zip xs := by
      refine Eq.trans (filterMap_congr' fun n hm => ?_) ih
      have e : (n == p) = false := by
        rw [beq_eq_false_iff_ne]; rintro rfl; exact hn.1 hm
      rw [List.zip_cons_cons, List.lookup_cons, e]
    rw [List.filterMap_cons, this]
    simp

noncomputable def plainP (p : Arguments) : Bool := p.posonlyargs.isEmpty && p.vararg.isNone && p.kwonlyargs.isEmpty && p.kwarg.isNone && decide ((p.args.map (·.arg)).Nodup)

theorem bind_res {ar : List Arg} {kd : List (Option Expr)} {df : List Expr} {nm qn : Str} {bd sc gl cl kd' dc pm an co ct bu} {xs : List Value} (hl : xs.length = (ar.map (·.arg)).length)
   (hmiss : (ar.map (·.arg)).filter (fun n => (((ar.map (·.arg)).zip xs).lookup n).isNone) = [])
   (hfm : (ar.map (·.arg)).filterMap (fun n => (((ar.map (·.arg)).zip xs).lookup n).map (n, ·)) = (ar.map (·.arg)).zip xs) :
   bindArgs ⟨nm, qn, { posonlyargs := [], args := ar, vararg := none, kwonlyargs := [], kw_defaults := kd, kwarg := none, defaults := df }, bd, sc, gl, cl, .none, kd', dc, pm, an, co, ct, bu⟩ ⟨xs, []⟩ = pure ((ar.map (·.arg)).zip xs) := by
  refine Eq.trans (if_neg ?_) ?_
  · show ¬ (decide (xs.length > (ar.map (·.arg)).length) && true) = true
    rw [Bool.and_true, decide_eq_true_eq, hl]; exact Nat.lt_irrefl _
  have e0 : ∀ k, List.drop k (Option.getD (none : Option (Array Value)) #[]).toList = [] := fun k => List.drop_nil
  rw [e0]
  refine Eq.trans (if_neg ?_) ?_
  · show ¬ (!(((ar.map (·.arg)).take (ar.map (·.arg)).length).filter (fun n => (((ar.map (·.arg)).zip xs).lookup n).isNone)).isEmpty) = true
    rw [List.take_length, hmiss]; exact Bool.false_ne_true
  have e1 : List.zip (List.drop (ar.map fun x : Arg => x.arg).length (ar.map fun x : Arg => x.arg)) ([] : List Value) = [] := List.zip_nil_right
  refine Eq.trans (b := (pure ((List.map (fun x : Arg => x.arg) ar ++ []).filterMap (fun n => (((List.map (fun x : Arg => x.arg) ar).zip xs).lookup n).map (n, ·))) : Sem (List (Str × Value)))) ?_ ?_
  · show (forIn (List.zip (List.drop (ar.map fun x : Arg => x.arg).length (ar.map fun x : Arg => x.arg)) ([] : List Value)) _ _ >>= _) = _
    rw [e1]
    rfl
  · rw [List.append_nil, hfm]
theorem miss_nil {ns : List Str} {xs : List Value} (hl : xs.length = ns.length) : ns.filter (fun n => ((ns.zip xs).lookup n).isNone) = [] := by
  rw [List.filter_eq_nil_iff]
  intro n hn
  have := zip_lookup_isSome hl n hn
  cases q : (ns.zip xs).lookup n with
  | none => rw [q] at this; cases this
  | some v => exact Bool.false_ne_true
theorem plain_parts {po ar va ko kd kw df} (hp : plainP { posonlyargs := po, args := ar, vararg := va, kwonlyargs := ko, kw_defaults := kd, kwarg := kw, defaults := df } = true) : po = [] ∧ va = none ∧ ko = [] ∧ kw = none ∧ (ar.map (·.arg)).Nodup := by
  unfold plainP at hp
  simp only [Bool.and_eq_true, List.isEmpty_iff, Option.isNone_iff_eq_none, decide_eq_true_eq] at hp
  exact ⟨hp.1.1.1.1, hp.1.1.1.2, hp.1.1.2, hp.1.2, hp.2⟩
theorem bind_plain {F : FuncData} (hp : plainP F.params = true) (hd : F.defaults = .none) {xs : List Value} (hl : xs.length = F.params.args.length) : bindArgs F ⟨xs, []⟩ = pure ((F.params.args.map (·.arg)).zip xs) := by
  obtain ⟨nm, qn, ⟨po, ar, va, ko, kd, kw, df⟩, bd, sc, gl, cl, ds, kd', dc, pm, an, co, ct, bu⟩ := F
  obtain ⟨p1, p2, p3, p4, p5⟩ := plain_parts hp
  clear hp
  have hl' : xs.length = (ar.map (·.arg)).length := by rw [List.length_map]; exact hl
  clear hl
  subst p1 p2 p3 p4 hd
  exact bind_res hl' (miss_nil hl') (zip_filterMap hl' p5)
end Mine
end
/-! Tp1 -/
section
set_option maxRecDepth 100000
set_option linter.unusedVariables false
namespace Mine
open PySem PySem.W PyProof.Rows

/-- what the written-out heap tells of the class -/
structure ClsOk (K : Frag) (C fI fC : Addr) (FI FC : FuncData) (fdC : FD) : Prop where
  makes : makesIn K C = true
  init : findIn K (.ref C) "__init__" = some (some (.ref fI))
  initFn : typeIn K (.ref fI) = some (.type "function")
  initAt : ∃ o, K.lookup fI = some o ∧ o.data = .func FI
  initCode : codeIn K FI.code FI.qualname = true
  initBody : ∃ p1 p2 p3 p4, FI.body = .stmts [.Assign [.Attribute (.Name (Str.ofString "self") p1) cslName p2] (.Name cslName p3) p4]
  initPar : plainP FI.params = true ∧ FI.params.args.map (·.arg) = [Str.ofString "self", cslName] ∧ FI.defaults = .none ∧ FI.closure = []
  initScope : FI.scope.kind = .function ∧ FI.scope.isGenerator = false ∧ FI.scope.isCoroutine = false ∧ FI.scope.names.lookup (Str.ofString "self") = some .local ∧ FI.scope.names.lookup cslName = some .local
  setattr : findIn K (.ref C) "__setattr__" = some (some (.builtin "object.__setattr__"))
  over : plainOver K C = true
  taker : takerIn K C cslName = some none
  hasDict : hasDictIn K C = true
  getC : plainGet K C cslName = true
  findC : findIn K (.ref C) cslName = some none
  getM : plainGet K C cmpName = true
  findM : findIn K (.ref C) cmpName = some (some (.ref fC))
  fnM : typeIn K (.ref fC) = some (.type "function")
  cmpAt : ∃ o, K.lookup fC = some o ∧ o.data = .func FC
  cmpCode : codeIn K FC.code FC.qualname = true
  cmpFn : FC.scope = fdC.scope ∧ FC.body = .stmts fdC.body ∧ FC.globals = mainGlobals ∧ FC.builtins = builtinsNs ∧ FC.closure = [] ∧ FC.defaults = .none ∧ plainP FC.params = true ∧ FC.params.args.map (·.arg) = fdC.params
  keep : keepIn K (.ref C) = true

theorem fn_of {c : Cx} {fd : FD} {a : Addr} {F : FuncData} {o : Obj} (h : c.base.get? a = some o) (hd : o.data = .func F) (h1 : F.scope = fd.scope) (h2 : F.body = .stmts fd.body) (h3 : F.globals = mainGlobals) (h4 : F.builtins = builtinsNs) (h5 : F.closure = []) (h6 : F.defaults = .none)
    (h7 : plainP F.params = true) (h8 : F.params.args.map (·.arg) = fd.params) (h9 : c.base.CodeRec F.code F.qualname) : FnAt c fd a F :=
  ⟨⟨o, h, hd⟩, h1, h2, h3, h4, h5, h9, fun xs hl => by rw [bind_plain h7 h6 (by rw [hl, ← h8, List.length_map]), h8]⟩

theorem getL_one {hs : Int} {t : Tok} {u : Value} : PySem.W.getL cslName [⟨hs, .str cslName t, u⟩] = some (some u) := rfl
theorem getL_oneM {hs : Int} {t : Tok} {u : Value} : PySem.W.getL cmpName [⟨hs, .str cslName t, u⟩] = some none := rfl

theorem make_ok {c : Cx} {K : Frag} {fI fC : Addr} {FI FC : FuncData} {fdC : FD} (ok : ClsOk K c.C fI fC FI FC fdC) (X : K.In c.base) (hlim : c.base.NoLimit) (A : Around) (s : Shared) (u : Value) (Q : Value → Shared → Prop) (E : Value → Shared → Prop) (hk : KeepAll c.base s.heap) (hd : A.depth + 2 < recursionLimit)
    (hQ : ∀ x dx hs t n h' tk', KeepAll s.heap h' → s.heap.get? x = none → s.heap.get? dx = none → h'.get? x = some (instObj c.C dx) → h'.get? dx = some (dictOf [⟨hs, .str cslName t, u⟩] n) → Q (.ref x) { s with heap := h', toks := tk' }) :
    wpAny (model c.prog c.w) A (call (.ref c.C) [u]) Q E s := by
  have X' := X.keeps hk
  obtain ⟨hh, g, d, tk, os⟩ := s
  dsimp only at X' hk hQ
  refine wpAny_call (make_core (makes_of X' ok.makes) (looks_findIn X' ok.init) (fun self => bind_fn X' self ok.initFn) (.inl rfl) ?_)
  obtain ⟨o, ho, hdat⟩ := ok.initAt
  obtain ⟨p1, p2, p3, p4, hbody⟩ := ok.initBody
  obtain ⟨q1, q2, q3, q4⟩ := ok.initPar
  obtain ⟨s1, s2, s3, s4, s5⟩ := ok.initScope
  have k2 : KeepAll hh ((hh.push emptyDict).push (instObj c.C hh.objs.size)) := (KeepAll.push _ _).trans (KeepAll.push _ _)
  have hx2 : ((hh.push emptyDict).push (instObj c.C hh.objs.size)).get? (hh.objs.size + 1) = some (instObj c.C hh.objs.size) := by
    have := Heap.get?_push_size (hh.push emptyDict) (o := instObj c.C hh.objs.size) rfl
    rwa [Heap.size_push] at this
  have hdx2 : ((hh.push emptyDict).push (instObj c.C hh.objs.size)).get? hh.objs.size = some emptyDict := Heap.get?_push_of_some _ (Heap.get?_push_size _ rfl)
  have hz2 : ((hh.push emptyDict).push (instObj c.C hh.objs.size)).objs.size = hh.objs.size + 2 := by rw [Heap.size_push, Heap.size_push]
  have nx : hh.get? (hh.objs.size + 1) = none := by
    cases q : hh.get? (hh.objs.size + 1) with
    | none => rfl
    | some o => exact absurd (Heap.lt_size q) (Nat.not_lt.mpr (Nat.le_succ _))
  have ndx : hh.get? hh.objs.size = none := none_at_end _
  have hbind : bindArgs FI ⟨[.ref (hh.objs.size + 1), u], []⟩ = pure [(Str.ofString "self", .ref (hh.objs.size + 1)), (cslName, u)] := by
    rw [bind_plain q1 q3 (by have e := congrArg List.length q2; rw [List.length_map] at e; rw [e]; rfl), q2]; rfl
  refine codeAny_call_cells (fd := FI) (binds := [(Str.ofString "self", .ref (hh.objs.size + 1)), (cslName, u)]) (by show A.depth + 1 < _; omega) (k2 _ _ (X' _ _ ho)) hdat ((hlim.keeps hk).keeps k2) ((codeRec_of X' ok.initCode).keeps k2) hbody hbind q4 (fun y hy => ?_) (fun s₁ Y => ?_) s3 s2 s1
  · rcases List.mem_cons.mp hy with rfl | hy
    · exact .inl s4
    · rw [List.mem_singleton] at hy; subst hy; exact .inl s5
  · obtain ⟨h₁, tk₁, rfl⟩ := Y.toInCall.same
    have hL : (callEnvC FI ((hh.push emptyDict).push (instObj c.C hh.objs.size)).objs.size fI).locals = hh.objs.size + 2 := hz2
    have k1 := Y.toInCall.keep
    have hself : (callEnvC FI ((hh.push emptyDict).push (instObj c.C hh.objs.size)).objs.size fI).kindOf (Str.ofString "self") = some .local := s4
    have hcsl : (callEnvC FI ((hh.push emptyDict).push (instObj c.C hh.objs.size)).objs.size fI).kindOf cslName = some .local := s5
    have hkeys : ([(Str.ofString "self", Value.ref (hh.objs.size + 1)), (cslName, u)].map (·.1)).Nodup := (show [Str.ofString "self", cslName].Nodup by decide)
    have hkind : (callEnvC FI ((hh.push emptyDict).push (instObj c.C hh.objs.size)).objs.size fI).scope.kind = .function := s1
    refine wpAny_execs_cons (plainObj_wpAny_Assign_Attribute ?_ ?_)
    · refine NameLC Y hkind hcsl (v := u) ?_ ?_ (by decide)
      · rw [bindL_eq hcsl _ _ hkeys]; rfl
      refine NameLC Y hkind hself (v := .ref (hh.objs.size + 1)) ?_ ?_ (by decide)
      · rw [bindL_eq hself _ _ hkeys]; rfl
      have F : Fr hh (callEnvC FI ((hh.push emptyDict).push (instObj c.C hh.objs.size)).objs.size fI).locals h₁ _ := ⟨Y.toInCall.ns, fun b o e => k1 b o (k2 b o e), by rw [hL]; exact Nat.le_add_right _ _⟩
      have N : News hh (callEnvC FI ((hh.push emptyDict).push (instObj c.C hh.objs.size)).objs.size fI).locals h₁ [(hh.objs.size + 1, instObj c.C hh.objs.size), (hh.objs.size, dictOf [] 0)] := fun p hp => by
        rcases List.mem_cons.mp hp with rfl | hp
        · exact ⟨k1 _ _ hx2, by rw [hL]; exact Nat.ne_of_lt (Nat.lt_succ_self _), nx⟩
        · rw [List.mem_singleton] at hp; subst hp
          exact ⟨k1 _ _ hdx2, by rw [hL]; exact Nat.ne_of_lt (Nat.lt_succ_of_lt (Nat.lt_succ_self _)), ndx⟩
      have I : InstAt h₁ (hh.objs.size + 1) (instObj c.C hh.objs.size) c.C (some (dictOf [] 0)) := ⟨(N _ (.head _)).1, rfl, rfl, (N _ (.tail _ (.head _))).1⟩
      refine set_dict (x := hh.objs.size + 1) (dx := hh.objs.size) (es := []) (n := 0) (news := [(hh.objs.size + 1, instObj c.C hh.objs.size), (hh.objs.size, dictOf [] 0)])
        (news' := [(hh.objs.size + 1, instObj c.C hh.objs.size), (hh.objs.size, dictOf [⟨PyData.keyHash c.w.params cslName, .str cslName (tk₁ + 1), u⟩] 1)]) F X' N I rfl ok.setattr ok.over ok.taker ok.hasDict rfl rfl (.tail (Nat.succ_ne_self _) (.head fun _ h => nomatch h)) (show 1 ≤ 1000 by decide) fun h' F' N' => ?_
      refine wpAny_execs_nil ⟨rfl, ?_⟩
      exact hQ _ _ _ _ _ h' _ F'.keep nx ndx (N' _ (.head _)).1 (N' _ (.tail _ (.head _))).1
    · rfl

theorem top_of {p : Program} {loose : List Str} {mean : ExcName → Option Value} {mg mb : Str → Option Value} {c : Cx} {K : Frag} {ft : Str → Option FD} {fI fC : Addr} {FI FC : FuncData} {fdC : FD} (T : Top p loose mean mg mb c.base) (X : K.In c.base) (ok : ClsOk K c.C fI fC FI FC fdC)
    (hdefs : ∀ g fd, ft g = some fd → g ≠ cmpName → ∃ d ∈ recsOf p, d.name = g ∧ d.scope = fd.scope ∧ d.body = fd.body ∧ d.params.args.map (·.arg) = fd.params ∧ plainP d.params = true)
    (hb : ∀ g ∈ builtNames, ft (Str.ofString g) = none ∧ nsIn K mainGlobals (Str.ofString g) = some none ∧ bootBuiltins (Str.ofString g) = some (builtVal2 g) ∧ Str.ofString g ≠ "__name__")
    (hC : nsIn K mainGlobals clsName = some (some (.ref c.C))) (hcmp : ∀ fd, ft cmpName = some fd → fd = fdC) (h2 : ∃ a o, 2 ≤ a ∧ K.lookup a = some o) : Top1 c ft where
  two := let ⟨a, o, h, e⟩ := h2; ⟨a, o, h, X _ _ e⟩
  nolimit := T.nolimit
  names := by
    refine ⟨mg, mb, T.g, T.b, fun g fd hg hne => ?_, fun g hm => ?_, mg_of X T.g hC⟩
    · obtain ⟨d, hd, rfl, e1, e2, e3, e4⟩ := hdefs g fd hg hne
      obtain ⟨a, o, pm, code, doc, m1, m2, m3, m4⟩ := T.fn d hd
      exact ⟨a, _, fn_of m2 m3 e1 (by rw [← e2]; rfl) rfl rfl rfl rfl e4 e3 m4, m1⟩
    · obtain ⟨b1, b2, b3, b4⟩ := hb g hm
      exact ⟨b1, mg_none_of X T.g b2, (T.builtins _ b4).trans b3⟩
  cmp := fun fd hfd => by
    obtain rfl := hcmp fd hfd
    obtain ⟨o, ho, hdat⟩ := ok.cmpAt
    obtain ⟨f1, f2, f3, f4, f5, f6, f7, f8⟩ := ok.cmpFn
    refine ⟨fC, FC, fn_of (X _ _ ho) hdat f1 f2 f3 f4 f5 f6 f7 f8 (codeRec_of X ok.cmpCode), fun A s x dx hs t n u pl Q E hk g1 g2 hq => ?_⟩
    have I : InstAt s.heap x (instObj c.C dx) c.C (some (dictOf [⟨hs, .str cslName t, u⟩] n)) := ⟨g1, rfl, rfl, g2⟩
    exact method_fn (X.keeps hk) I (plainGet_of ok.getM).1 (plainGet_of ok.getM).2 ok.findM ok.fnM (by show (lookIn cmpName (dictOf [⟨hs, .str cslName t, u⟩] n)).map _ = _; rw [lookIn_dict, getL_oneM]; rfl) hq
  csl := fun A s x dx hs t n u Q E hk g1 g2 hu hq => by
    have I : InstAt s.heap x (instObj c.C dx) c.C (some (dictOf [⟨hs, .str cslName t, u⟩] n)) := ⟨g1, rfl, rfl, g2⟩
    exact get_value (X.keeps hk) I (plainGet_of ok.getC).1 (findObj_own ok.hasDict ok.findC rfl getL_one) hu hq
  make := fun A s u Q E hk hd hQ => make_ok ok X T.nolimit A s u Q E hk hd hQ
  keepC := fun h hk => by
    obtain ⟨k, a, b⟩ := looks_keep (M := model c.prog c.w) ok.keep (X.keeps hk)
    exact ⟨k, a.elim .inl fun q => .inr (.inl q), b⟩
end Mine
end
/-! Wlk -/
section
set_option maxRecDepth 100000
set_option linter.unusedVariables false
namespace Mine
open PySem PySem.W PyProof.Rows

/-- the law's own body, run in its frame -/
theorem law_walk {c : Cx} {ft : Str → Option FD} {n : Nat} (tp : Top1 c ft) {fd : FD} {env : Env} {A : Around} {s₁ : Shared} {h₁ : Heap} {tk : Nat} {m : Str → Option Value} {script : Str} {a : Addr} {xs : List Value} {ns : List Int}
    (hc : c.base = s₁.heap) (F : Fr s₁.heap s₁.heap.objs.size h₁ m) (hsc : okScope fd.scope = true) (hcell : fd.scope.names.all (fun p => p.2 != .cell) = true) (hp : fd.params = [script])
    (eS : env.scope = fd.scope) (eL : env.locals = s₁.heap.objs.size) (eG : env.globals = mainGlobals) (eB : env.builtins = builtinsNs) (eC : env.cells = []) (hm : m script = some (.ref a))
    (hL : s₁.heap.IsList a xs.toArray) (hI : IntsAre xs ns) (r2 : Room2 A n) {w : V} {l' : Loc} (h : (Ev.at ft n).execs fd.scope fd.body (fLoc fd [.src (ns.map .int)]) = some (.ret w false, l')) (hw : w = .bool true) (E : Value → Shared → Prop) (Q : Flow → Shared → Prop)
    (hQ : ∀ h' tk', KeepAll s₁.heap h' → Q (.ret (.bool true)) { s₁ with heap := h', toks := tk' }) : wpAny (model c.prog c.w) A (execs fd.body env) Q E { s₁ with heap := h₁, toks := tk } := by
  have SO := okScope_of hsc
  have S := snd_at tp n
  let f : Fm := { sc := fd.scope, env := env, mc := [], fc := [], X := fun _ => False }
  have ekind : ∀ x, env.kindOf x = kindAt fd.scope x := fun x => by unfold Env.kindOf kindAt; rw [eS]
  have noFree : ∀ x, kindAt fd.scope x = some .free → False := fun x q => by
    rcases (SO.kinds x .free (lookup_mem q)).1 with h | h | h <;> cases h
  have noCell : ∀ x, kindAt fd.scope x = some .cell → False := fun x q => by
    have := List.all_eq_true.mp hcell (x, .cell) (lookup_mem q)
    simp at this
  have e1 : Env1 c f := by
    refine ⟨by rw [show f.env.scope = fd.scope from eS]; exact SO.k1, eG, eB, fun x q => (ekind x).trans q, fun x q => (ekind x).trans q, fun x q => (noFree x q).elim, fun x q => (ekind x).trans q, fun x y k q1 q2 => ?_, SO.k1, by rw [show f.env.scope = fd.scope from eS], (fun a ha => (nomatch ha)), fun x q => ?_⟩
    · rw [show f.env.cells = [] from eC] at q1; cases q1
    · obtain ⟨k', hk⟩ := Option.isSome_iff_exists.mp q
      exact (SO.kinds x k' (lookup_mem hk)).2.2
  have sL : s₁.heap.get? env.locals = Option.none := by rw [eL]; exact none_at_end _
  have rep : Rep c h₁ (f.M [] noneOwn) (.src (ns.map .int)) (.ref a) := by
    obtain ⟨o, e, q⟩ := hL
    refine .src (fun q => ?_) ⟨o, F.keep _ _ e, q⟩ (reps_of_ints hI)
    rcases q with q | q | q | ⟨x, q⟩ | q
    · exact q
    · rw [show a = env.locals from q, sL] at e; cases e
    · cases q
    · cases q
    · cases q
  have I : Inv c f [] noneOwn (fLoc fd [.src (ns.map .int)]) h₁ := by
    refine ⟨⟨m, ?_, fun x w d hgx hk => ?_⟩, fun x w d hgx hk => ?_, fun x hx hk => (noCell x hk).elim, (fun x a e => (nomatch e)), (fun x y a e => (nomatch e)), (fun a ha => (nomatch ha)), List.nodup_nil, (fun q => q), (fun q => (nomatch q)), (fun k hk => (nomatch hk)), (fun d hd => hd.elim)⟩
    · rw [hc]
      have := F
      rw [← eL] at this
      exact this
    · obtain ⟨hz, rfl⟩ := fLoc_get hgx
      rw [hp] at hz
      simp only [List.zip_cons_cons, List.zip_nil_right, List.lookup_cons, List.lookup_nil] at hz
      split at hz
      · rename_i hx
        have hx := eq_of_beq hx
        subst hx
        cases hz
        exact ⟨_, hm, by unfold Bears; rw [if_neg (by decide)]; exact rep⟩
      · cases hz
    · rcases hk with hk | hk
      · exact (noCell x hk).elim
      · exact (noFree x hk).elim
  refine S.execs (f := f) (s := { s₁ with heap := h₁, toks := tk }) e1 r2 I h Q E (fun q => nomatch q) (fun w' e x h2 tk2 own2 tr I2 r => ?_) (fun w' e ad h2 tk2 own2 tr I2 r => nomatch e)
  cases e
  subst hw
  rw [rep_bool r]
  refine hQ h2 tk2 fun b o e => (tr b o (fun q => ?_) (F.keep b o e)).1
  rcases q with q | q | ⟨x, q⟩ | q
  · rw [show b = env.locals from q, sL] at e; cases e
  · cases q
  · cases q
  · cases q
end Mine
end
/-! Fin1 -/
section
open PySem PySem.W PyProof.Rows
set_option Elab.async false
set_option maxRecDepth 100000 
set_option maxHeartbeats 8000000 
namespace Mine
/-- a method of the program's class -/
noncomputable def methOf (k : Nat) : Arguments × List Stmt × Scope := match PySem.Challenge.pw_xh0052_01.main.body with
  | _ :: .ClassDef _ _ _ body _ _ _ _ _ _ _ :: _ => match body[k]? with
    | some (.FunctionDef _ args b _ _ _ scope _ _ _) => (args, b, scope)
    | _ => default
  | _ => default
/-- what the top has made of the class -/
noncomputable def myK : Params → Frag := fun P =>
 [(3, { cls := Value.type "dict", data := Data.dict #[{ hash := PyData.keyHash P (Str.ofString "__name__"), key := Value.str (Str.ofString "__name__") 165, val := Value.str (Str.ofString "law_xh0052_01") 251 }, { hash := PyData.keyHash P (Str.ofString "__doc__"), key := Value.str (Str.ofString "__doc__") 166, val := Value.none }, { hash := PyData.keyHash P (Str.ofString "__package__"), key := Value.str (Str.ofString "__package__") 167, val := Value.none }, { hash := PyData.keyHash P (Str.ofString "__loader__"), key := Value.str (Str.ofString "__loader__") 168, val := Value.builtin "__main__.__loader__#opaque" }, { hash := PyData.keyHash P (Str.ofString "__spec__"), key := Value.str (Str.ofString "__spec__") 169, val := Value.none }, { hash := PyData.keyHash P (Str.ofString "__annotations__"), key := Value.str (Str.ofString "__annotations__") 170, val := Value.ref 6 }, { hash := PyData.keyHash P (Str.ofString "__builtins__"), key := Value.str (Str.ofString "__builtins__") 171, val := Value.ref 4 }, { hash := PyData.keyHash P (Str.ofString "__file__"), key := Value.str (Str.ofString "__file__") 173, val := Value.str (Str.ofString "/claim/cut.py") 172 }, { hash := PyData.keyHash P (Str.ofString "__cached__"), key := Value.str (Str.ofString "__cached__") 174, val := Value.none }, { hash := PyData.keyHash P (Str.ofString "TupleComp"), key := Value.str (Str.ofString "TupleComp") 230, val := Value.ref 38 }, { hash := PyData.keyHash P (Str.ofString "add_callers"), key := Value.str (Str.ofString "add_callers") 241, val := Value.ref 49 }, { hash := PyData.keyHash P (Str.ofString "count_calls"), key := Value.str (Str.ofString "count_calls") 250, val := Value.ref 56 }, { hash := PyData.keyHash P (Str.ofString "_law_cells"), key := Value.str (Str.ofString "_law_cells") 262, val := Value.ref 63 }, { hash := PyData.keyHash P (Str.ofString "_law_added"), key := Value.str (Str.ofString "_law_added") 268, val := Value.ref 68 }, { hash := PyData.keyHash P (Str.ofString "_law_product"), key := Value.str (Str.ofString "_law_product") 274, val := Value.ref 73 }, { hash := PyData.keyHash P (Str.ofString "_law_times"), key := Value.str (Str.ofString "_law_times") 284, val := Value.ref 80 }, { hash := PyData.keyHash P (Str.ofString "_law_columns"), key := Value.str (Str.ofString "_law_columns") 290, val := Value.ref 85 }, { hash := PyData.keyHash P (Str.ofString "_law_rank"), key := Value.str (Str.ofString "_law_rank") 302, val := Value.ref 92 }, { hash := PyData.keyHash P (Str.ofString "_law_lead"), key := Value.str (Str.ofString "_law_lead") 308, val := Value.ref 97 }, { hash := PyData.keyHash P (Str.ofString "_law_read"), key := Value.str (Str.ofString "_law_read") 314, val := Value.ref 102 }, { hash := PyData.keyHash P (Str.ofString "_law_waring"), key := Value.str (Str.ofString "_law_waring") 327, val := Value.ref 109 }, { hash := PyData.keyHash P (Str.ofString "_law_drawn"), key := Value.str (Str.ofString "_law_drawn") 345, val := Value.ref 116 }, { hash := PyData.keyHash P (Str.ofString "law"), key := Value.str (Str.ofString "law") 351, val := Value.ref 121 }] 23 }),
  (27, { cls := Value.type "code", data := Data.fields #[Value.str (Str.ofString "__init__") 201, Value.str (Str.ofString "TupleComp.__init__") 202, Value.str (Str.ofString "/claim/cut.py") 203, Value.int 4 0, Value.int 2 0, Value.int 0 0, Value.int 0 0, Value.int 3 0, Value.ref 22, Value.bool true, Value.int 181 0, Value.ref 23, Value.none, Value.ref 24, Value.ref 25, Value.ref 26, Value.int 206 0, Value.int 4 0, Value.str (Str.ofString "/claim/cut.py") 207] }),
  (28, { cls := Value.type "function", data := Data.func { name := Str.ofString "__init__", qualname := Str.ofString "TupleComp.__init__", params := (methOf 0).1, body := FuncBody.stmts (methOf 0).2.1, scope := (methOf 0).2.2, globals := 3, closure := [], defaults := Value.none, kwdefaults := Value.none, pyModule := Value.str (Str.ofString "cpy313.pstats") 187, code := Value.ref 27 } }),
  (34, { cls := Value.type "code", data := Data.fields #[Value.str (Str.ofString "compare") 209, Value.str (Str.ofString "TupleComp.compare") 210, Value.str (Str.ofString "/claim/cut.py") 211, Value.int 7 0, Value.int 3 0, Value.int 0 0, Value.int 0 0, Value.int 3 0, Value.ref 29, Value.bool true, Value.int 181 0, Value.ref 30, Value.none, Value.ref 31, Value.ref 32, Value.ref 33, Value.int 219 0, Value.int 7 0, Value.str (Str.ofString "/claim/cut.py") 220] }),
  (35, { cls := Value.type "function", data := Data.func { name := Str.ofString "compare", qualname := Str.ofString "TupleComp.compare", params := (methOf 1).1, body := FuncBody.stmts (methOf 1).2.1, scope := (methOf 1).2.2, globals := 3, closure := [], defaults := Value.none, kwdefaults := Value.none, pyModule := Value.str (Str.ofString "cpy313.pstats") 187, code := Value.ref 34 } }),
  (37, { cls := Value.type "dict", data := Data.dict #[{ hash := PyData.keyHash P (Str.ofString "__module__"), key := Value.str (Str.ofString "__module__") 196, val := Value.str (Str.ofString "cpy313.pstats") 187 }, { hash := PyData.keyHash P (Str.ofString "__firstlineno__"), key := Value.str (Str.ofString "__firstlineno__") 200, val := Value.int 2 199 }, { hash := PyData.keyHash P (Str.ofString "__init__"), key := Value.str (Str.ofString "__init__") 208, val := Value.ref 28 }, { hash := PyData.keyHash P (Str.ofString "compare"), key := Value.str (Str.ofString "compare") 221, val := Value.ref 35 }, { hash := PyData.keyHash P (Str.ofString "__static_attributes__"), key := Value.str (Str.ofString "__static_attributes__") 223, val := Value.ref 36 }, { hash := PyData.keyHash P (Str.ofString "__dict__"), key := Value.str (Str.ofString "__dict__") 225, val := Value.ref 39 }, { hash := PyData.keyHash P (Str.ofString "__weakref__"), key := Value.str (Str.ofString "__weakref__") 227, val := Value.ref 40 }, { hash := PyData.keyHash P (Str.ofString "__doc__"), key := Value.str (Str.ofString "__doc__") 228, val := Value.none }] 4 }),
  (38, { cls := Value.type "type", data := Data.cls { name := Str.ofString "TupleComp", bases := [Value.type "object"], mro := [Value.ref 38, Value.type "object"], ns := 37, qualname := Str.ofString "TupleComp" }, slots := #[none, none, some (Value.str (Str.ofString "TupleComp") 189), some (Value.str (Str.ofString "TupleComp") 197), some (Value.builtin "object.__new__"), some (Value.bool true)] })
]
noncomputable def noFd : FD := { params := [], body := [], scope := { kind := .function, names := [], isGenerator := false, isCoroutine := false } }
noncomputable def fdC : FD := (ft cmpName).getD noFd
noncomputable def fdL : FD := (ft (Str.ofString "law")).getD noFd

theorem cls39 (P : Params) : ∃ FI FC, ClsOk (myK P) 38 28 35 FI FC fdC := ⟨_, _, {
  makes := by with_unfolding_all rfl
  init := by with_unfolding_all rfl
  initFn := by with_unfolding_all rfl
  initAt := ⟨_, by with_unfolding_all rfl, by with_unfolding_all rfl⟩
  initCode := by with_unfolding_all rfl
  initBody := ⟨_, _, _, _, by with_unfolding_all rfl⟩
  initPar := ⟨by with_unfolding_all rfl, by with_unfolding_all rfl, by with_unfolding_all rfl, by with_unfolding_all rfl⟩
  initScope := ⟨by with_unfolding_all rfl, by with_unfolding_all rfl, by with_unfolding_all rfl, by with_unfolding_all rfl, by with_unfolding_all rfl⟩
  setattr := by with_unfolding_all rfl
  over := by with_unfolding_all rfl
  taker := by with_unfolding_all rfl
  hasDict := by with_unfolding_all rfl
  getC := by with_unfolding_all rfl
  findC := by with_unfolding_all rfl
  getM := by with_unfolding_all rfl
  findM := by with_unfolding_all rfl
  fnM := by with_unfolding_all rfl
  cmpAt := ⟨_, by with_unfolding_all rfl, by with_unfolding_all rfl⟩
  cmpCode := by with_unfolding_all rfl
  cmpFn := ⟨by with_unfolding_all rfl, by with_unfolding_all rfl, by with_unfolding_all rfl, by with_unfolding_all rfl, by with_unfolding_all rfl, by with_unfolding_all rfl, by with_unfolding_all rfl, by with_unfolding_all rfl⟩
  keep := by with_unfolding_all rfl }⟩

theorem built39 (P : Params) : ∀ g ∈ builtNames, ft (Str.ofString g) = none ∧ nsIn (myK P) mainGlobals (Str.ofString g) = some none ∧ bootBuiltins (Str.ofString g) = some (builtVal2 g) ∧ Str.ofString g ≠ "__name__" := by
  intro g hg
  simp only [builtNames, List.mem_cons, List.not_mem_nil, or_false] at hg
  rcases hg with rfl | rfl | rfl | rfl | rfl | rfl | rfl | rfl | rfl | rfl | rfl | rfl <;> exact ⟨by with_unfolding_all rfl, by with_unfolding_all rfl, by with_unfolding_all rfl, by decide⟩

noncomputable def recRow (d : DefRec) : Str × FD := (d.name, ⟨d.params.args.map (·.arg), d.body, d.scope⟩)
theorem defs_of {q : Program} (hr : (defs.filter fun p => p.1 != cmpName) = (recsOf q).map recRow) (hp : (recsOf q).all (fun d => plainP d.params) = true) (g : Str) (fd : FD) (h : ft g = some fd) (hne : g ≠ cmpName) : ∃ d ∈ recsOf q, d.name = g ∧ d.scope = fd.scope ∧ d.body = fd.body ∧ d.params.args.map (·.arg) = fd.params ∧ plainP d.params = true := by
  have hm := lookup_mem h
  have : (g, fd) ∈ defs.filter fun p => p.1 != cmpName := List.mem_filter.mpr ⟨hm, by simpa using hne⟩
  rw [hr] at this
  obtain ⟨d, hd', he⟩ := List.mem_map.mp this
  have hpd := List.all_eq_true.mp hp d hd'
  unfold recRow at he
  cases he
  exact ⟨d, hd', rfl, rfl, rfl, rfl, hpd⟩
end Mine
end
/-! Pu0 -/
section
set_option maxRecDepth 100000
set_option linter.unusedVariables false
namespace Mine
open PySem

noncomputable def S (x : String) : Str := Str.ofString x
/-- the scope and the body of a def -/
noncomputable def scOf (g : String) : Scope := match ft (S g) with | some fd => fd.scope | none => { kind := .function, names := [], isGenerator := false, isCoroutine := false }
noncomputable def bdOf (g : String) : List Stmt := match ft (S g) with | some fd => fd.body | none => []
noncomputable def stAt (l : List Stmt) (i : Nat) : Stmt := (l[i]?).getD (.Pass default)
noncomputable def forB : Stmt → List Stmt | .For _ _ b _ _ => b | _ => []
noncomputable def forT : Stmt → Expr | .For t _ _ _ _ => t | _ => .Constant .none 0 default
/-- a lap of a for -/
noncomputable def lapOf (R : Ev) (sc : Scope) (t : Expr) (body : List Stmt) (v : V) (loc : Loc) : Option (Fl × Loc) := do
  let loc ← target sc t v loc
  R.execs sc body loc
/-- a lap of the for that is the i-th statement of g -/
noncomputable def lapAt (n : Nat) (g : String) (i : Nat) : V → Loc → Option (Fl × Loc) := lapOf (Ev.at ft n) (scOf g) (forT (stAt (bdOf g) i)) (forB (stAt (bdOf g) i))
noncomputable def retOf (x : Option (Fl × Loc)) : Option (V × Bool) := match x with | some (.ret v b, _) => some (v, b) | _ => none
/-- the rest of a block -/
noncomputable def thn (x : Option (Fl × Loc)) (k : Loc → Option (Fl × Loc)) : Option (Fl × Loc) := match x with | some (.next, l) => k l | x => x
theorem thn_next (l : Loc) (k : Loc → Option (Fl × Loc)) : thn (some (.next, l)) k = k l := rfl
theorem thn_ret (v : V) (b : Bool) (l : Loc) (k : Loc → Option (Fl × Loc)) : thn (some (.ret v b, l)) k = some (.ret v b, l) := rfl
theorem forL_next {f : V → Loc → Option (Fl × Loc)} {v : V} {r : List V} {l l' : Loc} (h : f v l = some (.next, l')) : forL f (v :: r) l = forL f r l' := by
  rw [forL_c, h]
theorem forL_ret {f : V → Loc → Option (Fl × Loc)} {v w : V} {b : Bool} {r : List V} {l l' : Loc} (h : f v l = some (.ret w b, l')) : forL f (v :: r) l = some (.ret w b, l') := by
  rw [forL_c, h]
theorem forL_nil (f : V → Loc → Option (Fl × Loc)) (l : Loc) : forL f [] l = some (.next, l) := rfl
theorem retOf_ret (v : V) (b : Bool) (l : Loc) : retOf (some (.ret v b, l)) = some (v, b) := rfl

noncomputable abbrev O := Option (V × Bool)
noncomputable def toV (l : List (Int × Int)) : List (Int × V) := l.map fun p => (p.1, .int p.2)
theorem toV_len (l : List (Int × Int)) : (toV l).length = l.length := by simp [toV]
noncomputable def getI : List (Int × Int) → Int → Option Int
  | [], _ => none
  | (k, v) :: r, x => if k = x then some v else getI r x
noncomputable def putI : List (Int × Int) → Int → Int → List (Int × Int)
  | [], x, u => [(x, u)]
  | (k, v) :: r, x, u => if k = x then (k, u) :: r else (k, v) :: putI r x u
theorem lookE_toV : ∀ (l : List (Int × Int)) (k : Int), lookE (toV l) k = (getI l k).map V.int
  | [], _ => rfl
  | (k', v) :: r, k => by
    have ih := lookE_toV r k
    simp only [toV, List.map_cons, lookE, getI] at ih ⊢
    split
    · rfl
    · exact ih
theorem storeE_toV : ∀ (l : List (Int × Int)) (k v : Int), storeE (toV l) k (.int v) = toV (putI l k v)
  | [], _, _ => rfl
  | (k', w) :: r, k, v => by
    have ih := storeE_toV r k v
    simp only [toV, List.map_cons, storeE, putI] at ih ⊢
    split
    · rfl
    · simp [ih]
theorem putI_length (l : List (Int × Int)) (k v : Int) : (putI l k v).length ≤ l.length + 1 := by
  induction l with
  | nil => simp [putI]
  | cons p r ih =>
    obtain ⟨k', w⟩ := p
    simp only [putI]
    split <;> simp <;> omega
theorem getI_putI : ∀ (l : List (Int × Int)) (k v x : Int), getI (putI l k v) x = if k = x then some v else getI l x
  | [], k, v, x => by simp [putI, getI]
  | (k', w) :: r, k, v, x => by
    simp only [putI]
    by_cases h : k' = k
    · subst h
      rw [if_pos rfl]
      simp only [getI]
      split <;> simp_all
    · rw [if_neg h]
      simp only [getI, getI_putI r k v x]
      by_cases h2 : k' = x
      · subst h2
        have : ¬ k = k' := fun e => h e.symm
        simp [this]
      · simp [h2]
theorem putI_keys : ∀ (l : List (Int × Int)) (k v : Int), (putI l k v).map (·.1) = if (getI l k).isSome then l.map (·.1) else l.map (·.1) ++ [k]
  | [], k, v => rfl
  | (k', w) :: r, k, v => by
    simp only [putI, getI]
    by_cases h : k' = k
    · simp [h]
    · simp only [if_neg h, List.map_cons, putI_keys r k v]
      split <;> simp
theorem getI_isSome : ∀ (l : List (Int × Int)) (k : Int), (getI l k).isSome = true ↔ k ∈ l.map (·.1)
  | [], k => by simp [getI]
  | (k', w) :: r, k => by
    have ih := getI_isSome r k
    simp only [getI, List.map_cons, List.mem_cons]
    by_cases h : k' = k
    · simp [h]
    · have h' : ¬ k = k' := fun e => h e.symm
      simp only [if_neg h, ih, h', false_or]
theorem intE_toV : ∀ l : List (Int × Int), intE (toV l) = true
  | [] => rfl
  | (k, v) :: r => intE_toV r

noncomputable def noFd2 : FD := { params := [], body := [], scope := { kind := .function, names := [], isGenerator := false, isCoroutine := false } }
noncomputable def fdAt (g : String) : FD := (ft (S g)).getD noFd2
noncomputable def callOk (fd : FD) (n : Nat) : Bool := okScope fd.scope && fd.params.length == n && decide fd.params.Nodup && fd.params.all (fun p => kindAt fd.scope p == some .local || kindAt fd.scope p == some .cell)
theorem call_at {n : Nat} {g : String} {vs : List V} (hg : (ft (S g)).isSome = true) (hok : callOk (fdAt g) vs.length = true) : (Ev.at ft (n + 1)).call (S g) vs = retOf ((Ev.at ft n).execs (scOf g) (bdOf g) (fLoc (fdAt g) vs)) := by
  obtain ⟨fd, hfd⟩ := Option.isSome_iff_exists.mp hg
  have e1 : fdAt g = fd := by unfold fdAt; rw [hfd]; rfl
  have e2 : scOf g = fd.scope := by unfold scOf; rw [hfd]
  have e3 : bdOf g = fd.body := by unfold bdOf; rw [hfd]
  rw [e1] at hok ⊢
  rw [e2, e3]
  show callStep (Ev.at ft n) ft (S g) vs = _
  unfold callStep
  rw [hfd]
  dsimp only
  unfold callOk at hok
  rw [if_pos hok]
  unfold retOf
  generalize (Ev.at ft n).execs fd.scope fd.body (fLoc fd vs) = x
  cases x with
  | none => rfl
  | some p =>
    obtain ⟨fl, l⟩ := p
    cases fl <;> rfl
theorem execs_cons (n : Nat) (sc : Scope) (st : Stmt) (r : List Stmt) (loc : Loc) : (Ev.at ft (n + 1)).execs sc (st :: r) loc = thn ((Ev.at ft n).exec sc st loc) fun l => (Ev.at ft n).execs sc r l := by
  show execsStep (Ev.at ft n) sc (st :: r) loc = _
  unfold execsStep thn
  first
  | (dsimp only; done)
  | (dsimp only; generalize (Ev.at ft n).exec sc st loc = x; rcases x with _ | ⟨fl, l⟩ <;> first | rfl | (cases fl <;> rfl))
theorem execs_next {n : Nat} {sc : Scope} {st : Stmt} {r : List Stmt} {loc l : Loc} (h : (Ev.at ft n).exec sc st loc = some (.next, l)) : (Ev.at ft (n + 1)).execs sc (st :: r) loc = (Ev.at ft n).execs sc r l := by
  rw [execs_cons, h, thn_next]
theorem execs_done {n : Nat} {sc : Scope} {st : Stmt} {r : List Stmt} {loc l : Loc} {v : V} {b : Bool} (h : (Ev.at ft n).exec sc st loc = some (.ret v b, l)) : (Ev.at ft (n + 1)).execs sc (st :: r) loc = some (.ret v b, l) := by
  rw [execs_cons, h, thn_ret]
theorem execs_nil (n : Nat) (sc : Scope) (loc : Loc) : (Ev.at ft (n + 1)).execs sc [] loc = some (.next, loc) := rfl
noncomputable def forI : Stmt → Expr | .For _ i _ _ _ => i | _ => .Constant .none 0 default
theorem exec_for {n : Nat} {sc : Scope} {st : Stmt} {t it : Expr} {body : List Stmt} {pos : Pos} {loc : Loc} (h : st = .For t it body [] pos) (ht : tgtOk sc it t = true) :
    (Ev.at ft (n + 1)).exec sc st loc = (iter (Ev.at ft n) sc (forI st) loc).bind fun p => forL (lapOf (Ev.at ft n) sc (forT st) (forB st)) p.1 p.2 := by
  subst h
  show execStep (Ev.at ft n) sc (.For t it body [] pos) loc = (iter (Ev.at ft n) sc it loc).bind fun p => forL (lapOf (Ev.at ft n) sc t body) p.1 p.2
  unfold execStep
  simp only [ht, if_true]
  rfl
theorem bd3 {g : String} {a b d : Stmt} (h : bdOf g = [a, b, d]) : bdOf g = [stAt (bdOf g) 0, stAt (bdOf g) 1, stAt (bdOf g) 2] := by rw [h]; rfl

theorem ls1 {l : List Stmt} {a : Stmt} (h : l = [a]) : l = [stAt l 0] := by rw [h]; rfl
theorem ls2 {l : List Stmt} {a b : Stmt} (h : l = [a, b]) : l = [stAt l 0, stAt l 1] := by rw [h]; rfl
theorem ls3 {l : List Stmt} {a b d : Stmt} (h : l = [a, b, d]) : l = [stAt l 0, stAt l 1, stAt l 2] := by rw [h]; rfl
theorem ls4 {l : List Stmt} {a b d e : Stmt} (h : l = [a, b, d, e]) : l = [stAt l 0, stAt l 1, stAt l 2, stAt l 3] := by rw [h]; rfl
theorem ls6 {l : List Stmt} {a b d e i j : Stmt} (h : l = [a, b, d, e, i, j]) : l = [stAt l 0, stAt l 1, stAt l 2, stAt l 3, stAt l 4, stAt l 5] := by rw [h]; rfl
noncomputable def ifT : Stmt → Expr | .If t _ _ _ => t | _ => .Constant .none 0 default
noncomputable def ifA : Stmt → List Stmt | .If _ a _ _ => a | _ => []
noncomputable def ifB : Stmt → List Stmt | .If _ _ b _ => b | _ => []
theorem exec_if {n : Nat} {sc : Scope} {st : Stmt} {t : Expr} {a b : List Stmt} {pos : Pos} {loc : Loc} (h : st = .If t a b pos) :
    (Ev.at ft (n + 1)).exec sc st loc = ((Ev.at ft n).tst sc (ifT st) loc).bind fun p => if p.1 = true then (Ev.at ft n).execs sc (ifA st) p.2 else (Ev.at ft n).execs sc (ifB st) p.2 := by
  subst h
  rfl
theorem exec_if_t {n : Nat} {sc : Scope} {st : Stmt} {t : Expr} {a b : List Stmt} {pos : Pos} {loc l : Loc} (h : st = .If t a b pos) (ht : (Ev.at ft n).tst sc (ifT st) loc = some (true, l)) : (Ev.at ft (n + 1)).exec sc st loc = (Ev.at ft n).execs sc (ifA st) l := by
  rw [exec_if h, ht]; rfl
theorem exec_if_f {n : Nat} {sc : Scope} {st : Stmt} {t : Expr} {a b : List Stmt} {pos : Pos} {loc l : Loc} (h : st = .If t a b pos) (ht : (Ev.at ft n).tst sc (ifT st) loc = some (false, l)) : (Ev.at ft (n + 1)).exec sc st loc = (Ev.at ft n).execs sc (ifB st) l := by
  rw [exec_if h, ht]; rfl
theorem lap_eq (n : Nat) (g : String) (i : Nat) (v : V) (loc : Loc) : lapAt n g i v loc = (target (scOf g) (forT (stAt (bdOf g) i)) v loc).bind fun loc => (Ev.at ft n).execs (scOf g) (forB (stAt (bdOf g) i)) loc := rfl

/-! count_calls -/
noncomputable def ccL (callers nc calls : O) : Loc := [(S "callers", callers), (S "nc", nc), (S "calls", calls)]
theorem cc_call (n : Nat) (es : List (Int × V)) (hs : small es.length = true) : (Ev.at ft (n + 10)).call (S "count_calls") [.dict es] =
    retOf (thn (forL (lapAt (n + 6) "count_calls" 1) (es.map (·.2)) (ccL (some (.dict es, false)) (some (.int 0, false)) none)) fun l => (Ev.at ft (n + 7)).execs (scOf "count_calls") [stAt (bdOf "count_calls") 2] l) := by
  rw [call_at (g := "count_calls") rfl rfl, bd3 (g := "count_calls") rfl, execs_cons]
  rw [show (Ev.at ft (n + 8)).exec (scOf "count_calls") (stAt (bdOf "count_calls") 0) (fLoc (fdAt "count_calls") [.dict es]) = some (.next, ccL (some (.dict es, false)) (some (.int 0, false)) none) from rfl]
  rw [thn_next, execs_cons]
  rw [exec_for (rfl : stAt (bdOf "count_calls") 1 = .For _ _ _ [] _) rfl]
  rw [show iter (Ev.at ft (n + 6)) (scOf "count_calls") (forI (stAt (bdOf "count_calls") 1)) (ccL (some (.dict es, false)) (some (.int 0, false)) none) = if small es.length = true then some (es.map (·.2), ccL (some (.dict es, false)) (some (.int 0, false)) none) else none from rfl, if_pos hs]
  rfl
end Mine
end
/-! Pu1 -/
section
set_option maxRecDepth 100000
set_option linter.unusedVariables false
namespace Mine
open PySem

theorem toV_snd (l : List (Int × Int)) : (toV l).map (·.2) = (l.map (·.2)).map V.int := by simp [toV]
theorem small_of {n : Nat} (h : n ≤ 100000) : small n = true := decide_eq_true h

/-! count_calls -/
theorem count_calls_eq {n : Nat} {l : List (Int × Int)} (hn : 10 ≤ n) (hs : l.length ≤ 100000) : (Ev.at ft n).call (S "count_calls") [.dict (toV l)] = some (.int (l.map (·.2)).sum, false) := by
  obtain ⟨n, rfl⟩ : ∃ m, n = m + 10 := ⟨n - 10, by omega⟩
  rw [cc_call n _ (small_of (by rw [toV_len]; exact hs)), toV_snd]
  have key : ∀ (vs : List Int) (a : Int) (o : O), ∃ o', forL (lapAt (n + 6) "count_calls" 1) (vs.map V.int) (ccL (some (.dict (toV l), false)) (some (.int a, false)) o) = some (.next, ccL (some (.dict (toV l), false)) (some (.int (a + vs.sum), false)) o') := by
    intro vs
    induction vs with
    | nil => intro a o; exact ⟨o, by rw [List.map_nil, List.sum_nil, Int.add_zero]; rfl⟩
    | cons v vs ih =>
      intro a o
      obtain ⟨o', h⟩ := ih (a + v) (some (.int v, false))
      refine ⟨o', ?_⟩
      rw [List.map_cons, forL_c, show lapAt (n + 6) "count_calls" 1 (.int v) (ccL (some (.dict (toV l), false)) (some (.int a, false)) o) = some (.next, ccL (some (.dict (toV l), false)) (some (.int (a + v), false)) (some (.int v, false))) from rfl]
      simp only [h, List.sum_cons, Int.add_assoc]
  obtain ⟨o', h⟩ := key (l.map (·.2)) 0 none
  rw [h, thn_next, Int.zero_add]
  rfl

/-! compare -/
noncomputable def cpL (self left right index direction l r : O) : Loc := [(S "self", self), (S "left", left), (S "right", right), (S "index", index), (S "direction", direction), (S "l", l), (S "r", r)]
noncomputable def st3 (f : Fin 3 → Nat) : Str := ⟨#[f 0, f 1, f 2]⟩
noncomputable def cmpR : List (Fin 3 × Int) → (Fin 3 → Nat) → (Fin 3 → Nat) → Int
  | [], _, _ => 0
  | (i, w) :: r, s, t => if s i < t i then -w else if t i < s i then w else cmpR r s t
theorem cmpR_c {i : Fin 3} {w : Int} {r : List (Fin 3 × Int)} {s t : Fin 3 → Nat} : cmpR ((i, w) :: r) s t = if s i < t i then -w else if t i < s i then w else cmpR r s t := rfl
noncomputable def colV (cols : List (Fin 3 × Int)) : List V := cols.map fun p => .tup [.int (p.1.val : Int), .int p.2]

theorem lt1 (a b : Nat) : decide ([a] < [b]) = decide (a < b) := by
  have : ([a] < [b]) ↔ a < b := by
    rw [List.cons_lt_cons_iff]; simp
  exact decide_eq_decide.mpr this
theorem fin3 : ∀ i : Fin 3, i = 0 ∨ i = 1 ∨ i = 2 := by decide
theorem cp_lap (n : Nat) (a o1 o2 o3 o4 : O) (s t : Fin 3 → Nat) (i : Fin 3) (w : Int) : ∃ o3' o4',
    lapAt (n + 8) "compare" 0 (.tup [.int (i.val : Int), .int w]) (cpL a (some (.str (st3 s), false)) (some (.str (st3 t), false)) o1 o2 o3 o4) =
      if decide (s i < t i) = true then some (.ret (.int (-w)) false, cpL a (some (.str (st3 s), false)) (some (.str (st3 t), false)) (some (.int (i.val : Int), false)) (some (.int w, false)) o3' o4')
      else if decide (t i < s i) = true then some (.ret (.int w) false, cpL a (some (.str (st3 s), false)) (some (.str (st3 t), false)) (some (.int (i.val : Int), false)) (some (.int w, false)) o3' o4')
      else some (.next, cpL a (some (.str (st3 s), false)) (some (.str (st3 t), false)) (some (.int (i.val : Int), false)) (some (.int w, false)) o3' o4') := by
  have go : ∀ (x y : Nat) (L1 : Loc), (target (scOf "compare") (forT (stAt (bdOf "compare") 0)) (.tup [.int (i.val : Int), .int w]) (cpL a (some (.str (st3 s), false)) (some (.str (st3 t), false)) o1 o2 o3 o4) = some L1) →
      (Ev.at ft (n + 7)).exec (scOf "compare") (stAt (forB (stAt (bdOf "compare") 0)) 0) L1 = some (.next, cpL a (some (.str (st3 s), false)) (some (.str (st3 t), false)) (some (.int (i.val : Int), false)) (some (.int w, false)) (some (.str ⟨#[x]⟩, false)) o4) →
      (Ev.at ft (n + 6)).exec (scOf "compare") (stAt (forB (stAt (bdOf "compare") 0)) 1) (cpL a (some (.str (st3 s), false)) (some (.str (st3 t), false)) (some (.int (i.val : Int), false)) (some (.int w, false)) (some (.str ⟨#[x]⟩, false)) o4) = some (.next, cpL a (some (.str (st3 s), false)) (some (.str (st3 t), false)) (some (.int (i.val : Int), false)) (some (.int w, false)) (some (.str ⟨#[x]⟩, false)) (some (.str ⟨#[y]⟩, false))) →
      lapAt (n + 8) "compare" 0 (.tup [.int (i.val : Int), .int w]) (cpL a (some (.str (st3 s), false)) (some (.str (st3 t), false)) o1 o2 o3 o4) =
      if decide (x < y) = true then some (.ret (.int (-w)) false, cpL a (some (.str (st3 s), false)) (some (.str (st3 t), false)) (some (.int (i.val : Int), false)) (some (.int w, false)) (some (.str ⟨#[x]⟩, false)) (some (.str ⟨#[y]⟩, false)))
      else if decide (y < x) = true then some (.ret (.int w) false, cpL a (some (.str (st3 s), false)) (some (.str (st3 t), false)) (some (.int (i.val : Int), false)) (some (.int w, false)) (some (.str ⟨#[x]⟩, false)) (some (.str ⟨#[y]⟩, false)))
      else some (.next, cpL a (some (.str (st3 s), false)) (some (.str (st3 t), false)) (some (.int (i.val : Int), false)) (some (.int w, false)) (some (.str ⟨#[x]⟩, false)) (some (.str ⟨#[y]⟩, false))) := by
    intro x y L1 h1 h2 h3
    rw [lap_eq, h1, Option.bind_some, ls4 (l := forB (stAt (bdOf "compare") 0)) rfl, execs_next (h2), execs_next (h3), execs_cons, exec_if (rfl : stAt (forB (stAt (bdOf "compare") 0)) 2 = .If _ _ _ _)]
    generalize hL : cpL a (some (.str (st3 s), false)) (some (.str (st3 t), false)) (some (.int (i.val : Int), false)) (some (.int w, false)) (some (.str ⟨#[x]⟩, false)) (some (.str ⟨#[y]⟩, false)) = L
    rw [show (Ev.at ft (n + 4)).tst (scOf "compare") (ifT (stAt (forB (stAt (bdOf "compare") 0)) 2)) L = some (decide ([x] < [y]), L) by rw [← hL]; rfl, Option.bind_some, lt1]
    dsimp only
    cases hxy : decide (x < y) with
    | true => rw [if_pos rfl, if_pos rfl, show (Ev.at ft (n + 4)).execs (scOf "compare") (ifA (stAt (forB (stAt (bdOf "compare") 0)) 2)) L = some (.ret (.int (-w)) false, L) by rw [← hL]; rfl, thn_ret]
    | false =>
      rw [if_neg (by decide), if_neg (by decide), show (Ev.at ft (n + 4)).execs (scOf "compare") (ifB (stAt (forB (stAt (bdOf "compare") 0)) 2)) L = some (.next, L) from rfl, thn_next, execs_cons, exec_if (rfl : stAt (forB (stAt (bdOf "compare") 0)) 3 = .If _ _ _ _)]
      rw [show (Ev.at ft (n + 3)).tst (scOf "compare") (ifT (stAt (forB (stAt (bdOf "compare") 0)) 3)) L = some (decide ([y] < [x]), L) by rw [← hL]; rfl, Option.bind_some, lt1]
      dsimp only
      cases hyx : decide (y < x) with
      | true => rw [if_pos rfl, if_pos rfl, show (Ev.at ft (n + 3)).execs (scOf "compare") (ifA (stAt (forB (stAt (bdOf "compare") 0)) 3)) L = some (.ret (.int w) false, L) by rw [← hL]; rfl, thn_ret]
      | false => rw [if_neg (by decide), if_neg (by decide), show (Ev.at ft (n + 3)).execs (scOf "compare") (ifB (stAt (forB (stAt (bdOf "compare") 0)) 3)) L = some (.next, L) from rfl, thn_next]; rfl
  refine ⟨some (.str ⟨#[s i]⟩, false), some (.str ⟨#[t i]⟩, false), ?_⟩
  rcases fin3 i with rfl | rfl | rfl
  · exact go (s 0) (t 0) _ rfl rfl rfl
  · exact go (s 1) (t 1) _ rfl rfl rfl
  · exact go (s 2) (t 2) _ rfl rfl rfl


theorem cp_start (x a b : V) : fLoc (fdAt "compare") [x, a, b] = cpL (some (x, false)) (some (a, false)) (some (b, false)) none none none none := rfl
theorem cp_iter (n : Nat) (vs : List V) (s t : O) : iter (Ev.at ft (n + 11)) (scOf "compare") (forI (stAt (bdOf "compare") 0)) (cpL (some (.inst (.list vs), false)) s t none none none none) = if small vs.length = true then some (vs, cpL (some (.inst (.list vs), false)) s t none none none none) else none := rfl
theorem cp_end (n : Nat) (L s t a b d e : O) : (Ev.at ft (n + 12)).execs (scOf "compare") [stAt (bdOf "compare") 1] (cpL L s t a b d e) = some (.ret (.int 0) false, cpL L s t a b d e) := rfl
theorem cp_laps {n : Nat} {s t : Fin 3 → Nat} (cs : List (Fin 3 × Int)) : ∀ (a o1 o2 o3 o4 : O), retOf (thn (forL (lapAt (n + 11) "compare" 0) (colV cs) (cpL a (some (.str (st3 s), false)) (some (.str (st3 t), false)) o1 o2 o3 o4)) fun l => (Ev.at ft (n + 12)).execs (scOf "compare") [stAt (bdOf "compare") 1] l) = some (.int (cmpR cs s t), false) := by
  induction cs with
  | nil =>
    intro a o1 o2 o3 o4
    rw [colV, List.map_nil, forL_nil, thn_next, cp_end, retOf_ret]; rfl
  | cons p cs ih =>
    intro a o1 o2 o3 o4
    obtain ⟨i, w⟩ := p
    obtain ⟨o3', o4', h⟩ := cp_lap (n + 3) a o1 o2 o3 o4 s t i w
    rw [colV, List.map_cons]
    by_cases h1 : s i < t i
    · rw [if_pos (decide_eq_true h1)] at h
      rw [forL_ret h, thn_ret, retOf_ret, cmpR_c, if_pos h1]
    · rw [if_neg (by simpa using h1)] at h
      by_cases h2 : t i < s i
      · rw [if_pos (decide_eq_true h2)] at h
        rw [forL_ret h, thn_ret, retOf_ret, cmpR_c, if_neg h1, if_pos h2]
      · rw [if_neg (by simpa using h2)] at h
        rw [forL_next h, cmpR_c, if_neg h1, if_neg h2]
        exact ih a _ _ _ _
theorem compare_eq {n : Nat} {cols : List (Fin 3 × Int)} {s t : Fin 3 → Nat} (hn : 14 ≤ n) (hc : cols.length ≤ 100) : (Ev.at ft n).call (S "compare") [.inst (.list (colV cols)), .str (st3 s), .str (st3 t)] = some (.int (cmpR cols s t), false) := by
  obtain ⟨n, rfl⟩ : ∃ m, n = m + 14 := ⟨n - 14, by omega⟩
  rw [call_at (g := "compare") rfl rfl, ls2 (l := bdOf "compare") rfl, execs_cons, exec_for (rfl : stAt (bdOf "compare") 0 = .For _ _ _ [] _) rfl, cp_start, cp_iter,
    if_pos (small_of (by simp [colV]; omega)), Option.bind_some]
  exact cp_laps cols _ _ _ _ _
end Mine
end
/-! Pu2 -/
section
set_option maxRecDepth 100000
set_option linter.unusedVariables false
namespace Mine
open PySem

theorem up {n k : Nat} (h : k ≤ n) : ∃ m, n = m + k := ⟨n - k, by omega⟩

/-! _law_rank -/
noncomputable def rkL (key columns figures rank column way : O) : Loc := [(S "key", key), (S "columns", columns), (S "figures", figures), (S "rank", rank), (S "column", column), (S "way", way)]
noncomputable def fig (k : Int) (i : Fin 3) : Int := if i = 0 then k.fdiv 100 else if i = 1 then (k.fdiv 10).fmod 10 else k.fmod 10
noncomputable def rankR : List (Fin 3 × Int) → (Fin 3 → Int) → Int → Int
  | [], _, a => a
  | (i, w) :: r, f, a => rankR r f (10 * a + w * f i)
theorem rankR_c {i : Fin 3} {w a : Int} {r : List (Fin 3 × Int)} {f : Fin 3 → Int} : rankR ((i, w) :: r) f a = rankR r f (10 * a + w * f i) := rfl
noncomputable def figs (k : Int) : V := .list [.int (k.fdiv 100), .int ((k.fdiv 10).fmod 10), .int (k.fmod 10)]
theorem rk_start (x y : V) : fLoc (fdAt "_law_rank") [x, y] = rkL (some (x, false)) (some (y, false)) none none none none := rfl
theorem rk_0 {n : Nat} (k : Int) (y c d e f : O) (hn : 14 ≤ n) : (Ev.at ft n).exec (scOf "_law_rank") (stAt (bdOf "_law_rank") 0) (rkL (some (.int k, false)) y c d e f) = some (.next, rkL (some (.int k, false)) y (some (figs k, true)) d e f) := by obtain ⟨n, rfl⟩ := up hn; rfl
theorem rk_1 {n : Nat} (x y c d e f : O) (hn : 14 ≤ n) : (Ev.at ft n).exec (scOf "_law_rank") (stAt (bdOf "_law_rank") 1) (rkL x y c d e f) = some (.next, rkL x y c (some (.int 0, false)) e f) := by obtain ⟨n, rfl⟩ := up hn; rfl
theorem rk_iter {n : Nat} (vs : List V) (x c d e f : O) (hn : 11 ≤ n) : iter (Ev.at ft n) (scOf "_law_rank") (forI (stAt (bdOf "_law_rank") 2)) (rkL x (some (.list vs, false)) c d e f) = if small vs.length = true then some (vs, rkL x (some (.list vs, false)) c d e f) else none := by obtain ⟨n, rfl⟩ := up hn; rfl
theorem rk_end {n : Nat} (x y c e f : O) (a : Int) (hn : 12 ≤ n) : (Ev.at ft n).execs (scOf "_law_rank") [stAt (bdOf "_law_rank") 3] (rkL x y c (some (.int a, false)) e f) = some (.ret (.int a) false, rkL x y c (some (.int a, false)) e f) := by obtain ⟨n, rfl⟩ := up hn; rfl
theorem rk_lap {n : Nat} (x y e f : O) (k a : Int) (i : Fin 3) (w : Int) (hw : w = 1 ∨ w = -1) (hn : 12 ≤ n) :
    lapAt n "_law_rank" 2 (.tup [.int (i.val : Int), .int w]) (rkL x y (some (figs k, true)) (some (.int a, false)) e f) =
      some (.next, rkL x y (some (figs k, true)) (some (.int (10 * a + w * fig k i), false)) (some (.int (i.val : Int), false)) (some (.int w, false))) := by
  obtain ⟨n, rfl⟩ := up hn
  rcases hw with rfl | rfl
  · match i with
    | 0 => rfl
    | 1 => rfl
    | 2 => rfl
  · match i with
    | 0 => rfl
    | 1 => rfl
    | 2 => rfl
theorem rk_laps {n n' : Nat} {x y : O} {k : Int} (hn : 12 ≤ n) (hn' : 12 ≤ n') (cs : List (Fin 3 × Int)) : (∀ p ∈ cs, p.2 = 1 ∨ p.2 = -1) → ∀ (a : Int) (e f : O), retOf (thn (forL (lapAt n "_law_rank" 2) (colV cs) (rkL x y (some (figs k, true)) (some (.int a, false)) e f)) fun l => (Ev.at ft n').execs (scOf "_law_rank") [stAt (bdOf "_law_rank") 3] l) = some (.int (rankR cs (fig k) a), false) := by
  induction cs with
  | nil =>
    intro _ a e f
    rw [colV, List.map_nil, forL_nil, thn_next, rk_end _ _ _ _ _ _ hn', retOf_ret]; rfl
  | cons p cs ih =>
    intro h a e f
    obtain ⟨i, w⟩ := p
    rw [colV, List.map_cons, forL_next (rk_lap x y e f k a i w (h _ (.head _)) hn), rankR_c]
    exact ih (fun q hq => h q (.tail _ hq)) _ _ _
theorem rank_eq {n : Nat} {cols : List (Fin 3 × Int)} {k : Int} (hn : 25 ≤ n) (hc : cols.length ≤ 100) (hw : ∀ p ∈ cols, p.2 = 1 ∨ p.2 = -1) : (Ev.at ft n).call (S "_law_rank") [.int k, .list (colV cols)] = some (.int (rankR cols (fig k) 0), false) := by
  obtain ⟨n, rfl⟩ := up hn
  have hs : small (colV cols).length = true := small_of (by simp [colV]; omega)
  rw [call_at (g := "_law_rank") rfl rfl, ls4 (l := bdOf "_law_rank") rfl, rk_start, execs_cons, rk_0, thn_next, execs_cons, rk_1, thn_next, execs_cons, exec_for (rfl : stAt (bdOf "_law_rank") 2 = .For _ _ _ [] _) rfl, rk_iter, if_pos hs, Option.bind_some]
  · exact rk_laps (by first | exact nle (by decide) | omega) (by first | exact nle (by decide) | omega) cols hw 0 _ _
  all_goals omega
end Mine
end
/-! Sym -/
section
set_option maxRecDepth 100000
set_option linter.unusedVariables false
namespace Mine
open PySem

section
variable (n : Nat) (sc : Scope) (loc : Loc)
theorem val_nm (R : Ev) (x : Str) (p : Pos) (hv : isVar (kindAt sc x) = true) : val R sc (.Name x p) loc = (getL loc x).map fun p => (p.1, if p.2 then setL loc x (some (p.1, false)) else loc) := by
  exact if_pos hv
theorem pk_nm (R : Ev) (x : Str) (p : Pos) (hv : isVar (kindAt sc x) = true) : pk R sc (.Name x p) loc = (getL loc x).map fun p => (p.1, loc) := by
  exact if_pos hv
theorem at_exec (st : Stmt) : (Ev.at ft (n + 1)).exec sc st loc = execStep (Ev.at ft n) sc st loc := rfl
theorem v_int (i : Int) (k : Nat) (p : Pos) : (Ev.at ft (n + 1)).ev sc (.Constant (.int i) k p) loc = some (.int i, false, loc) := rfl
theorem v_none (k : Nat) (p : Pos) : (Ev.at ft (n + 1)).ev sc (.Constant .none k p) loc = some (.none, false, loc) := rfl
theorem v_bin (l r : Expr) (op : Operator) (p : Pos) : (Ev.at ft (n + 1)).ev sc (.BinOp l op r p) loc = (pk (Ev.at ft n) sc l loc).bind fun t => (pk (Ev.at ft n) sc r t.2).bind fun u => (binV op t.1 u.1).bind fun v => some (v, false, u.2) := rfl
theorem v_cmp (l r : Expr) (op : CmpOp) (p : Pos) : (Ev.at ft (n + 1)).ev sc (.Compare l [op] [r] p) loc = (pk (Ev.at ft n) sc l loc).bind fun t => (pk (Ev.at ft n) sc r t.2).bind fun u => (cmpV op t.1 u.1).bind fun v => some (.bool v, false, u.2) := rfl
theorem v_if (t b o : Expr) (p : Pos) : (Ev.at ft (n + 1)).ev sc (.IfExp t b o p) loc = ((Ev.at ft n).tst sc t loc).bind fun c => if c.1 = true then (Ev.at ft n).ev sc b c.2 else (Ev.at ft n).ev sc o c.2 := rfl
theorem v_dict (ks : List (Option Expr)) (vs : List Expr) (p : Pos) : (Ev.at ft (n + 1)).ev sc (.Dict ks vs p) loc = (pairs (Ev.at ft n) sc ks vs loc).bind fun t => if decide (t.1.length ≤ 15) = true then some (.dict (t.1.foldl (fun d e => storeE d e.1 e.2) []), true, t.2) else none := rfl
theorem v_tup (es : List Expr) (k : Nat) (p : Pos) : (Ev.at ft (n + 1)).ev sc (.Tuple es k p) loc = (vals (Ev.at ft n) sc es loc).bind fun t => if small t.1.length = true then some (.tup t.1, false, t.2) else none := rfl
theorem v_nm (x : Str) (p : Pos) (hv : isVar (kindAt sc x) = true) : (Ev.at ft (n + 1)).ev sc (.Name x p) loc = (getL loc x).bind fun q => some (q.1, q.2, if q.2 = true then setL loc x none else loc) := by
  show evStep (Ev.at ft n) ft sc (.Name x p) loc = _
  unfold evStep
  dsimp only
  unfold isVar at hv
  have key : (match getL loc x with
      | some (v, true) => some (v, true, setL loc x none)
      | some (v, false) => some (v, false, loc)
      | none => none) = (getL loc x).bind fun q => some (q.1, q.2, if q.2 = true then setL loc x none else loc) := by
    cases getL loc x with
    | none => rfl
    | some q => obtain ⟨v, b⟩ := q; cases b <;> rfl
  split at hv
  · rename_i h; rw [h]; exact key
  · rename_i h; rw [h]; exact key
  · rename_i h; rw [h]; exact key
  · cases hv
/-- a call of a def -/
theorem v_call (g : Str) (p q : Pos) (args : List Expr) (h1 : kindAt sc g = some .globalImplicit) (h2 : args.isEmpty = false) (h3 : (g == Str.ofString "compare") = false) (h4 : (g == Str.ofString "TupleComp") = false) (h5 : (ft g).isSome = true) :
    (Ev.at ft (n + 1)).ev sc (.Call (.Name g p) args [] q) loc = (vals (Ev.at ft n) sc args loc).bind fun t => ((Ev.at ft n).call g t.1).bind fun u => some (u.1, u.2, t.2) := by
  show callV (Ev.at ft n) ft sc (.Name g p) args q loc = _
  unfold callV
  dsimp only
  have hg : (globN sc g && !args.isEmpty && g != Str.ofString "compare") = true := by
    unfold globN bne
    rw [h1, h2, h3]; rfl
  rw [if_pos hg, if_neg (by rw [h4]; decide)]
  obtain ⟨fd, hfd⟩ := Option.isSome_iff_exists.mp h5
  rw [hfd]
  rfl
/-- a call of a built-in -/
theorem v_built (g : Str) (p q : Pos) (args : List Expr) (b : String) (h1 : kindAt sc g = some .globalImplicit) (h2 : args.isEmpty = false) (h3 : (g == Str.ofString "compare") = false) (h4 : (g == Str.ofString "TupleComp") = false) (h5 : (ft g).isSome = false) (h6 : builtOf g = some b) :
    (Ev.at ft (n + 1)).ev sc (.Call (.Name g p) args [] q) loc = (pks (Ev.at ft n) sc args loc).bind fun t => (builtV b t.1).bind fun v => some (v, false, t.2) := by
  show callV (Ev.at ft n) ft sc (.Name g p) args q loc = _
  unfold callV
  dsimp only
  have hg : (globN sc g && !args.isEmpty && g != Str.ofString "compare") = true := by
    unfold globN bne
    rw [h1, h2, h3]; rfl
  rw [if_pos hg, if_neg (by rw [h4]; decide)]
  have hfd : ft g = none := by cases q : ft g with | none => rfl | some _ => rw [q] at h5; cases h5
  rw [hfd, h6]
  rfl

/-! statements -/
theorem x_asg (x : Str) (p q : Pos) (e : Expr) : (Ev.at ft (n + 1)).exec sc (.Assign [.Name x p] e q) loc = ((Ev.at ft n).ev sc e loc).bind fun t => (putN sc x t.1 t.2.1 t.2.2).bind fun l => some (.next, l) := rfl
theorem x_sub (x : Str) (p q r : Pos) (i e : Expr) : (Ev.at ft (n + 1)).exec sc (.Assign [.Subscript (.Name x p) i q] e r) loc = (val (Ev.at ft n) sc e loc).bind fun t => if ownsN t.2 x = true then (pk (Ev.at ft n) sc i t.2).bind fun u => (putItem sc x u.1 t.1 u.2).bind fun l => some (.next, l) else none := rfl
theorem x_ret (e : Expr) (p : Pos) : (Ev.at ft (n + 1)).exec sc (.Return (some e) p) loc = ((Ev.at ft n).ev sc e loc).bind fun t => some (.ret t.1 t.2.1, t.2.2) := rfl
theorem x_augs (x : Str) (p q r : Pos) (i e : Expr) {ov : V} (hk : kindAt sc x = some .local) (hg : getL loc x = some (ov, true)) : (Ev.at ft (n + 1)).exec sc (.AugAssign (.Subscript (.Name x p) i q) .Add e r) loc =
    (pk (Ev.at ft n) sc i loc).bind fun k => (itemV ov k.1).bind fun old => (pk (Ev.at ft n) sc e k.2).bind fun v => (match old, v.1 with
      | .int a, .int b => (putItem sc x k.1 (.int (a + b)) v.2).bind fun l => some (.next, l)
      | _, _ => none) := by
  rw [at_exec]
  unfold execStep
  dsimp only
  rw [hk, hg]
  rfl
theorem x_augn (x : Str) (p r : Pos) (e : Expr) {a : Int} (hk : kindAt sc x = some .local) (hg : getL loc x = some (.int a, false)) : (Ev.at ft (n + 1)).exec sc (.AugAssign (.Name x p) .Add e r) loc =
    (pk (Ev.at ft n) sc e loc).bind fun v => (match v.1 with
      | .int b => (putN sc x (.int (a + b)) false v.2).bind fun l => some (.next, l)
      | _ => none) := by
  rw [at_exec]
  unfold execStep
  dsimp only
  rw [hk, hg]
  rfl
/-! tests -/
theorem t_cmp (l r : Expr) (op : CmpOp) (p : Pos) : (Ev.at ft (n + 1)).tst sc (.Compare l [op] [r] p) loc = (pk (Ev.at ft n) sc l loc).bind fun t => (pk (Ev.at ft n) sc r t.2).bind fun u => (cmpV op t.1 u.1).bind fun v => some (v, u.2) := rfl
theorem t_and (es : List Expr) (p : Pos) : (Ev.at ft (n + 1)).tst sc (.BoolOp .And es p) loc = allT (Ev.at ft n) sc es loc := rfl
end
theorem val_Constant (R : Ev) (sc : Scope) (loc : Loc) {c k p} : val R sc (.Constant c k p) loc = (R.ev sc (.Constant c k p) loc).map fun x => (x.1, x.2.2) := rfl
theorem pk_Constant (R : Ev) (sc : Scope) (loc : Loc) {c k p} : pk R sc (.Constant c k p) loc = (R.ev sc (.Constant c k p) loc).map fun x => (x.1, x.2.2) := rfl
theorem val_BinOp (R : Ev) (sc : Scope) (loc : Loc) {l o r p} : val R sc (.BinOp l o r p) loc = (R.ev sc (.BinOp l o r p) loc).map fun x => (x.1, x.2.2) := rfl
theorem pk_BinOp (R : Ev) (sc : Scope) (loc : Loc) {l o r p} : pk R sc (.BinOp l o r p) loc = (R.ev sc (.BinOp l o r p) loc).map fun x => (x.1, x.2.2) := rfl
theorem val_UnaryOp (R : Ev) (sc : Scope) (loc : Loc) {o x p} : val R sc (.UnaryOp o x p) loc = (R.ev sc (.UnaryOp o x p) loc).map fun x => (x.1, x.2.2) := rfl
theorem val_Dict (R : Ev) (sc : Scope) (loc : Loc) {a b p} : val R sc (.Dict a b p) loc = (R.ev sc (.Dict a b p) loc).map fun x => (x.1, x.2.2) := rfl
theorem pk_Tuple (R : Ev) (sc : Scope) (loc : Loc) {a k p} : pk R sc (.Tuple a k p) loc = (R.ev sc (.Tuple a k p) loc).map fun x => (x.1, x.2.2) := rfl
theorem val_Call (R : Ev) (sc : Scope) (loc : Loc) {a b d p} : val R sc (.Call a b d p) loc = (R.ev sc (.Call a b d p) loc).map fun x => (x.1, x.2.2) := rfl
theorem pk_Call (R : Ev) (sc : Scope) (loc : Loc) {a b d p} : pk R sc (.Call a b d p) loc = (R.ev sc (.Call a b d p) loc).map fun x => (x.1, x.2.2) := rfl
theorem val_Subscript (R : Ev) (sc : Scope) (loc : Loc) {a b p} : val R sc (.Subscript a b p) loc = (R.ev sc (.Subscript a b p) loc).map fun x => (x.1, x.2.2) := rfl
theorem pk_Subscript (R : Ev) (sc : Scope) (loc : Loc) {a b p} : pk R sc (.Subscript a b p) loc = (R.ev sc (.Subscript a b p) loc).map fun x => (x.1, x.2.2) := rfl
theorem vi_nm (n : Nat) (sc : Scope) (loc : Loc) (v : Expr) (p : Pos) {x q} : (Ev.at ft (n + 1)).ev sc (.Subscript v (.Name x q) p) loc = (pk (Ev.at ft n) sc v loc).bind fun t => (pk (Ev.at ft n) sc (.Name x q) t.2).bind fun u => (itemV t.1 u.1).bind fun r => some (r, false, u.2) := rfl
theorem vi_ct (n : Nat) (sc : Scope) (loc : Loc) (v : Expr) (p : Pos) {c k q} : (Ev.at ft (n + 1)).ev sc (.Subscript v (.Constant c k q) p) loc = (pk (Ev.at ft n) sc v loc).bind fun t => (pk (Ev.at ft n) sc (.Constant c k q) t.2).bind fun u => (itemV t.1 u.1).bind fun r => some (r, false, u.2) := rfl
end Mine
end
/-! Pu3 -/
section
set_option maxRecDepth 100000
set_option linter.unusedVariables false
namespace Mine
open PySem
theorem item_dict (es : List (Int × V)) (k : Int) : itemV (.dict es) (.int k) = lookE es k := rfl
theorem mul_r {v m : Int} (hm : fits m = true) : binV .Mult (.int v) (.int m) = some (.int (v * m)) := by
  show (if (fits v || fits m) = true then _ else _) = _
  rw [hm, Bool.or_true, if_pos rfl]
theorem mul_l {v m : Int} (hm : fits v = true) : binV .Mult (.int v) (.int m) = some (.int (v * m)) := by
  show (if (fits v || fits m) = true then _ else _) = _
  rw [hm, Bool.true_or, if_pos rfl]
/-! _law_times -/
noncomputable def tmL (a0 a1 a2 a3 : O) : Loc := [(Str.ofString "table", a0), (Str.ofString "number", a1), (Str.ofString "made", a2), (Str.ofString "key", a3)]
section
variable (a0 a1 a2 a3 p : O)
theorem tm_g0 : getL (tmL a0 a1 a2 a3) (Str.ofString "table") = a0 := by cases a0 <;> rfl
theorem tm_g1 : getL (tmL a0 a1 a2 a3) (Str.ofString "number") = a1 := by cases a1 <;> rfl
theorem tm_g3 : getL (tmL a0 a1 a2 a3) (Str.ofString "key") = a3 := by cases a3 <;> rfl
theorem tm_k0 : kindAt (scOf "_law_times") (Str.ofString "table") = some .local := rfl
theorem tm_k1 : kindAt (scOf "_law_times") (Str.ofString "number") = some .local := rfl
theorem tm_k3 : kindAt (scOf "_law_times") (Str.ofString "key") = some .local := rfl
end
theorem tm_p0 (R : Ev) (loc : Loc) (p : Pos) : pk R (scOf "_law_times") (.Name (Str.ofString "table") p) loc = (getL loc (Str.ofString "table")).map fun q => (q.1, loc) := pk_nm _ _ _ _ _ (by rw [tm_k0]; rfl)
theorem tm_p1 (R : Ev) (loc : Loc) (p : Pos) : pk R (scOf "_law_times") (.Name (Str.ofString "number") p) loc = (getL loc (Str.ofString "number")).map fun q => (q.1, loc) := pk_nm _ _ _ _ _ (by rw [tm_k1]; rfl)
theorem tm_o2 (a0 a1 a3 : O) (v : V) : ownsN (tmL a0 a1 (some (v, true)) a3) (Str.ofString "made") = true := rfl
theorem tm_d2 (a0 a1 a3 : O) (es : List (Int × V)) (k : Int) (v : V) : putItem (scOf "_law_times") (Str.ofString "made") (.int k) v (tmL a0 a1 (some (.dict es, true)) a3) = if small es.length = true then some (tmL a0 a1 (some (.dict (storeE es k v), true)) a3) else none := rfl
theorem tm_p3 (R : Ev) (loc : Loc) (p : Pos) : pk R (scOf "_law_times") (.Name (Str.ofString "key") p) loc = (getL loc (Str.ofString "key")).map fun q => (q.1, loc) := pk_nm _ _ _ _ _ (by rw [tm_k3]; rfl)
theorem tm_st {n : Nat} (es acc : List (Int × V)) (k : Int) (num a r : V) (hn : 8 ≤ n) (h1 : lookE es k = some a) (h2 : binV .Mult a num = some r) (h3 : small acc.length = true) :
    (Ev.at ft n).exec (scOf "_law_times") (stAt (forB (stAt (bdOf "_law_times") 1)) 0) (tmL (some (.dict es, false)) (some (num, false)) (some (.dict acc, true)) (some (.int k, false))) = some (.next, tmL (some (.dict es, false)) (some (num, false)) (some (.dict (storeE acc k r), true)) (some (.int k, false))) := by
  obtain ⟨n, rfl⟩ := up hn
  show (Ev.at ft (n + 8)).exec (scOf "_law_times") (.Assign [.Subscript (.Name _ _) _ _] _ _) _ = _
  simp only [val_BinOp, pk_Subscript, vi_nm, v_bin, x_sub, Option.map_some, Option.bind_some, tm_g0, tm_g1, tm_g3, tm_p0, tm_p1, tm_o2, tm_d2, tm_p3, item_dict, h1, h2, h3, if_true]
theorem tm_lap {n : Nat} (es acc : List (Int × V)) (k : Int) (num a r : V) (d : O) (hn : 9 ≤ n) (h1 : lookE es k = some a) (h2 : binV .Mult a num = some r) (h3 : small acc.length = true) :
    lapAt n "_law_times" 1 (.int k) (tmL (some (.dict es, false)) (some (num, false)) (some (.dict acc, true)) d) = some (.next, tmL (some (.dict es, false)) (some (num, false)) (some (.dict (storeE acc k r), true)) (some (.int k, false))) := by
  obtain ⟨n, rfl⟩ := up hn
  rw [lap_eq, show target (scOf "_law_times") (forT (stAt (bdOf "_law_times") 1)) (.int k) (tmL (some (.dict es, false)) (some (num, false)) (some (.dict acc, true)) d) = some (tmL (some (.dict es, false)) (some (num, false)) (some (.dict acc, true)) (some (.int k, false))) from rfl, Option.bind_some, ls1 (l := forB (stAt (bdOf "_law_times") 1)) rfl, execs_next (tm_st es acc k num a r (by first | exact nle (by decide) | omega) h1 h2 h3)]
  rfl
theorem tm_start (x y : V) : fLoc (fdAt "_law_times") [x, y] = tmL (some (x, false)) (some (y, false)) none none := rfl
theorem tm_0 {n : Nat} (a b c d : O) (hn : 8 ≤ n) : (Ev.at ft n).exec (scOf "_law_times") (stAt (bdOf "_law_times") 0) (tmL a b c d) = some (.next, tmL a b (some (.dict [], true)) d) := by obtain ⟨n, rfl⟩ := up hn; rfl
theorem tm_iter {n : Nat} (es : List (Int × V)) (b c d : O) (hn : 8 ≤ n) : iter (Ev.at ft n) (scOf "_law_times") (forI (stAt (bdOf "_law_times") 1)) (tmL (some (.dict es, false)) b c d) = if small (es.map fun e => V.int e.1).length = true then some (es.map (fun e => V.int e.1), tmL (some (.dict es, false)) b c d) else none := by obtain ⟨n, rfl⟩ := up hn; rfl
theorem tm_end {n : Nat} (a b d : O) (v : V) (hn : 8 ≤ n) : (Ev.at ft n).execs (scOf "_law_times") [stAt (bdOf "_law_times") 2] (tmL a b (some (v, true)) d) = some (.ret v true, tmL a b none d) := by obtain ⟨n, rfl⟩ := up hn; rfl
noncomputable def timesI (l : List (Int × Int)) (m : Int) : List (Int × Int) := l.map fun p => (p.1, p.2 * m)
theorem storeE_new : ∀ {es : List (Int × V)} {k : Int} {v : V}, k ∉ es.map (·.1) → storeE es k v = es ++ [(k, v)]
  | [], k, v, _ => rfl
  | (k', w) :: r, k, v, h => by
    simp only [List.map_cons, List.mem_cons, not_or] at h
    rw [storeE, if_neg (fun e => h.1 e.symm), storeE_new h.2, List.cons_append]
theorem lookE_mem' : ∀ {es : List (Int × V)}, (es.map (·.1)).Nodup → ∀ {k : Int} {v : V}, (k, v) ∈ es → lookE es k = some v
  | (k', w) :: r, hn, k, v, hm => by
    rw [List.map_cons, List.nodup_cons] at hn
    rcases List.mem_cons.mp hm with e | hm
    · cases e; simp [lookE]
    · have hne : ¬ k' = k := fun e => hn.1 (List.mem_map.mpr ⟨(k, v), hm, e.symm⟩)
      simp only [lookE, if_neg hne]
      exact lookE_mem' hn.2 hm
theorem toV_fst (l : List (Int × Int)) : (toV l).map (·.1) = l.map (·.1) := by simp [toV]
theorem tm_laps {n : Nat} {l : List (Int × Int)} {m : Int} (hn : 9 ≤ n) (hm : fits m = true) (hnd : (l.map (·.1)).Nodup) (hs : l.length ≤ 1000) : ∀ (r done : List (Int × Int)) (d : O), l = done ++ r → ∃ d',
    forL (lapAt n "_law_times" 1) (r.map fun p => V.int p.1) (tmL (some (.dict (toV l), false)) (some (.int m, false)) (some (.dict (toV (timesI done m)), true)) d) = some (.next, tmL (some (.dict (toV l), false)) (some (.int m, false)) (some (.dict (toV (timesI l m)), true)) d') := by
  intro r
  induction r with
  | nil => intro done d e; rw [List.append_nil] at e; subst e; exact ⟨d, rfl⟩
  | cons p r ih =>
    intro done d e
    obtain ⟨k, v⟩ := p
    have hmem : (k, V.int v) ∈ toV l := List.mem_map.mpr ⟨(k, v), by rw [e]; simp, rfl⟩
    have hk : lookE (toV l) k = some (.int v) := lookE_mem' (by rw [toV_fst]; exact hnd) hmem
    have hb : binV .Mult (.int v) (.int m) = some (.int (v * m)) := mul_r hm
    have hsm : small (toV (timesI done m)).length = true := small_of (by
      rw [toV_len]; simp only [timesI, List.length_map]
      have := congrArg List.length e
      simp at this; omega)
    obtain ⟨d', h⟩ := ih (done ++ [(k, v)]) (some (.int k, false)) (by rw [e]; simp)
    refine ⟨d', ?_⟩
    have hnew : k ∉ (toV (timesI done m)).map (·.1) := by
      rw [toV_fst]
      rw [e, List.map_append, List.nodup_append] at hnd
      intro hk
      simp only [timesI, List.map_map, List.mem_map] at hk
      obtain ⟨q, hq, hq2⟩ := hk
      exact hnd.2.2 k (List.mem_map.mpr ⟨q, hq, hq2⟩) k (by simp) rfl
    rw [List.map_cons, forL_next (tm_lap _ _ k _ _ _ d hn hk hb hsm), storeE_new hnew]
    rw [show toV (timesI done m) ++ [(k, V.int (v * m))] = toV (timesI (done ++ [(k, v)]) m) by simp [toV, timesI]]
    exact h
theorem times_eq {n : Nat} {l : List (Int × Int)} {m : Int} (hn : 20 ≤ n) (hm : fits m = true) (hnd : (l.map (·.1)).Nodup) (hs : l.length ≤ 1000) : (Ev.at ft n).call (Str.ofString "_law_times") [.dict (toV l), .int m] = some (.dict (toV (timesI l m)), true) := by
  obtain ⟨n, rfl⟩ := up hn
  have hsm : small ((toV l).map fun e => V.int e.1).length = true := small_of (by rw [List.length_map, toV_len]; omega)
  have e2 : ((toV l).map fun e => V.int e.1) = l.map fun p => V.int p.1 := by simp [toV]
  show (Ev.at ft (n + 20)).call (S "_law_times") _ = _
  rw [call_at (g := "_law_times") rfl rfl, ls3 (l := bdOf "_law_times") rfl, tm_start, execs_cons, tm_0, thn_next, execs_cons, exec_for (rfl : stAt (bdOf "_law_times") 1 = .For _ _ _ [] _) rfl, tm_iter, if_pos hsm, Option.bind_some, e2]
  · obtain ⟨d', h⟩ := tm_laps (n := n + 16) (by first | exact nle (by decide) | omega) hm hnd hs l [] none rfl
    rw [show lapOf (Ev.at ft (n + 16)) (scOf "_law_times") (forT (stAt (bdOf "_law_times") 1)) (forB (stAt (bdOf "_law_times") 1)) = lapAt (n + 16) "_law_times" 1 from rfl]
    dsimp only
    rw [show (Option.some (V.dict ([] : List (Int × V)), true)) = some (.dict (toV (timesI [] m)), true) from rfl, h, thn_next, tm_end _ _ _ _ (by first | exact nle (by decide) | omega), retOf_ret]
  all_goals omega

/-! add_callers -/
noncomputable def acL (a0 a1 a2 a3 a4 : O) : Loc := [(Str.ofString "target", a0), (Str.ofString "source", a1), (Str.ofString "new_callers", a2), (Str.ofString "func", a3), (Str.ofString "caller", a4)]
section
variable (a0 a1 a2 a3 a4 p : O)
theorem ac_g2 : getL (acL a0 a1 a2 a3 a4) (Str.ofString "new_callers") = a2 := by cases a2 <;> rfl
theorem ac_g3 : getL (acL a0 a1 a2 a3 a4) (Str.ofString "func") = a3 := by cases a3 <;> rfl
theorem ac_g4 : getL (acL a0 a1 a2 a3 a4) (Str.ofString "caller") = a4 := by cases a4 <;> rfl
theorem ac_s4 : setL (acL a0 a1 a2 a3 a4) (Str.ofString "caller") p = acL a0 a1 a2 a3 p := rfl
theorem ac_k2 : kindAt (scOf "add_callers") (Str.ofString "new_callers") = some .local := rfl
theorem ac_k3 : kindAt (scOf "add_callers") (Str.ofString "func") = some .local := rfl
theorem ac_k4 : kindAt (scOf "add_callers") (Str.ofString "caller") = some .local := rfl
end
theorem ac_o2 (a0 a1 a3 a4 : O) (v : V) : ownsN (acL a0 a1 (some (v, true)) a3 a4) (Str.ofString "new_callers") = true := rfl
theorem ac_d2 (a0 a1 a3 a4 : O) (es : List (Int × V)) (k : Int) (v : V) : putItem (scOf "add_callers") (Str.ofString "new_callers") (.int k) v (acL a0 a1 (some (.dict es, true)) a3 a4) = if small es.length = true then some (acL a0 a1 (some (.dict (storeE es k v), true)) a3 a4) else none := rfl
theorem ac_p3 (R : Ev) (loc : Loc) (p : Pos) : pk R (scOf "add_callers") (.Name (Str.ofString "func") p) loc = (getL loc (Str.ofString "func")).map fun q => (q.1, loc) := pk_nm _ _ _ _ _ (by rw [ac_k3]; rfl)
theorem ac_p4 (R : Ev) (loc : Loc) (p : Pos) : pk R (scOf "add_callers") (.Name (Str.ofString "caller") p) loc = (getL loc (Str.ofString "caller")).map fun q => (q.1, loc) := pk_nm _ _ _ _ _ (by rw [ac_k4]; rfl)
theorem ac_v4 (R : Ev) (loc : Loc) (p : Pos) : val R (scOf "add_callers") (.Name (Str.ofString "caller") p) loc = (getL loc (Str.ofString "caller")).map fun q => (q.1, if q.2 = true then setL loc (Str.ofString "caller") (some (q.1, false)) else loc) := val_nm _ _ _ _ _ (by rw [ac_k4]; rfl)
theorem ac_start (x y : V) : fLoc (fdAt "add_callers") [x, y] = acL (some (x, false)) (some (y, false)) none none none := rfl
theorem ac_0 {n : Nat} (a b c d e : O) (hn : 8 ≤ n) : (Ev.at ft n).exec (scOf "add_callers") (stAt (bdOf "add_callers") 0) (acL a b c d e) = some (.next, acL a b (some (.dict [], true)) d e) := by obtain ⟨n, rfl⟩ := up hn; rfl
theorem ac_iter1 {n : Nat} (es : List (Int × V)) (b c d e : O) (hn : 8 ≤ n) : iter (Ev.at ft n) (scOf "add_callers") (forI (stAt (bdOf "add_callers") 1)) (acL (some (.dict es, false)) b c d e) = if small es.length = true then some (es.map (fun e => V.tup [.int e.1, e.2]), acL (some (.dict es, false)) b c d e) else none := by obtain ⟨n, rfl⟩ := up hn; rfl
theorem ac_iter2 {n : Nat} (es : List (Int × V)) (a c d e : O) (hn : 8 ≤ n) : iter (Ev.at ft n) (scOf "add_callers") (forI (stAt (bdOf "add_callers") 2)) (acL a (some (.dict es, false)) c d e) = if small es.length = true then some (es.map (fun e => V.tup [.int e.1, e.2]), acL a (some (.dict es, false)) c d e) else none := by obtain ⟨n, rfl⟩ := up hn; rfl
theorem ac_end {n : Nat} (a b d e : O) (v : V) (hn : 8 ≤ n) : (Ev.at ft n).execs (scOf "add_callers") [stAt (bdOf "add_callers") 3] (acL a b (some (v, true)) d e) = some (.ret v true, acL a b none d e) := by obtain ⟨n, rfl⟩ := up hn; rfl
theorem ac_lap1 {n : Nat} (acc : List (Int × V)) (a b d e : O) (k v : Int) (hn : 9 ≤ n) (h3 : small acc.length = true) : lapAt n "add_callers" 1 (.tup [.int k, .int v]) (acL a b (some (.dict acc, true)) d e) = some (.next, acL a b (some (.dict (storeE acc k (.int v)), true)) (some (.int k, false)) (some (.int v, false))) := by
  obtain ⟨n, rfl⟩ := up hn
  rw [lap_eq, show target (scOf "add_callers") (forT (stAt (bdOf "add_callers") 1)) (.tup [.int k, .int v]) (acL a b (some (.dict acc, true)) d e) = some (acL a b (some (.dict acc, true)) (some (.int k, false)) (some (.int v, false))) from rfl, Option.bind_some, ls1 (l := forB (stAt (bdOf "add_callers") 1)) rfl, execs_cons]
  have h : (Ev.at ft (n + 8)).exec (scOf "add_callers") (stAt (forB (stAt (bdOf "add_callers") 1)) 0) (acL a b (some (.dict acc, true)) (some (.int k, false)) (some (.int v, false))) = some (.next, acL a b (some (.dict (storeE acc k (.int v)), true)) (some (.int k, false)) (some (.int v, false))) := by
    show (Ev.at ft (n + 8)).exec (scOf "add_callers") (.Assign [.Subscript (.Name _ _) _ _] _ _) _ = _
    simp only [x_sub, Option.map_some, Option.bind_some, ac_g3, ac_g4, ac_s4, ac_o2, ac_d2, ac_p3, ac_v4, h3, if_true, Bool.false_eq_true, if_false]
  rw [h, thn_next]
  rfl
/-- the second loop's body: the key is there -/
theorem ac_old {n : Nat} (acc : List (Int × V)) (a b : O) (k v w : Int) (hn : 20 ≤ n) (h1 : lookE acc k = some (.int w)) (h3 : small acc.length = true) :
    (Ev.at ft n).exec (scOf "add_callers") (stAt (forB (stAt (bdOf "add_callers") 2)) 0) (acL a b (some (.dict acc, true)) (some (.int k, false)) (some (.int v, false))) = some (.next, acL a b (some (.dict (storeE acc k (.int (w + v))), true)) (some (.int k, false)) (some (.int v, false))) := by
  obtain ⟨n, rfl⟩ := up hn
  have t1 : (Ev.at ft (n + 19)).tst (scOf "add_callers") (ifT (stAt (forB (stAt (bdOf "add_callers") 2)) 0)) (acL a b (some (.dict acc, true)) (some (.int k, false)) (some (.int v, false))) = some (true, acL a b (some (.dict acc, true)) (some (.int k, false)) (some (.int v, false))) :=
    (show _ = some ((lookE acc k).isSome, acL a b (some (.dict acc, true)) (some (.int k, false)) (some (.int v, false))) from rfl).trans (by rw [h1]; rfl)
  have t2 : (Ev.at ft (n + 17)).tst (scOf "add_callers") (ifT (stAt (ifA (stAt (forB (stAt (bdOf "add_callers") 2)) 0)) 0)) (acL a b (some (.dict acc, true)) (some (.int k, false)) (some (.int v, false))) = some (false, acL a b (some (.dict acc, true)) (some (.int k, false)) (some (.int v, false))) := rfl
  have h : (Ev.at ft (n + 16)).exec (scOf "add_callers") (stAt (ifB (stAt (ifA (stAt (forB (stAt (bdOf "add_callers") 2)) 0)) 0)) 0) (acL a b (some (.dict acc, true)) (some (.int k, false)) (some (.int v, false))) = some (.next, acL a b (some (.dict (storeE acc k (.int (w + v))), true)) (some (.int k, false)) (some (.int v, false))) := by
    show (Ev.at ft (n + 16)).exec (scOf "add_callers") (.AugAssign (.Subscript (.Name _ _) _ _) .Add _ _) _ = _
    rw [x_augs _ _ _ _ _ _ _ _ _ ac_k2 (ac_g2 ..)]
    simp only [Option.map_some, Option.bind_some, ac_g3, ac_g4, ac_d2, ac_p3, ac_p4, item_dict, h1, h3, if_true]
  rw [exec_if_t (rfl : stAt (forB (stAt (bdOf "add_callers") 2)) 0 = .If _ _ _ _) t1, ls1 (l := ifA (stAt (forB (stAt (bdOf "add_callers") 2)) 0)) rfl, execs_cons,
    exec_if_f (rfl : stAt (ifA (stAt (forB (stAt (bdOf "add_callers") 2)) 0)) 0 = .If _ _ _ _) t2, ls1 (l := ifB (stAt (ifA (stAt (forB (stAt (bdOf "add_callers") 2)) 0)) 0)) rfl, execs_next (h), execs_nil, thn_next, execs_nil]
theorem ac_new {n : Nat} (acc : List (Int × V)) (a b : O) (k v : Int) (hn : 20 ≤ n) (h1 : lookE acc k = none) (h3 : small acc.length = true) :
    (Ev.at ft n).exec (scOf "add_callers") (stAt (forB (stAt (bdOf "add_callers") 2)) 0) (acL a b (some (.dict acc, true)) (some (.int k, false)) (some (.int v, false))) = some (.next, acL a b (some (.dict (storeE acc k (.int v)), true)) (some (.int k, false)) (some (.int v, false))) := by
  obtain ⟨n, rfl⟩ := up hn
  have t1 : (Ev.at ft (n + 19)).tst (scOf "add_callers") (ifT (stAt (forB (stAt (bdOf "add_callers") 2)) 0)) (acL a b (some (.dict acc, true)) (some (.int k, false)) (some (.int v, false))) = some (false, acL a b (some (.dict acc, true)) (some (.int k, false)) (some (.int v, false))) :=
    (show _ = some ((lookE acc k).isSome, acL a b (some (.dict acc, true)) (some (.int k, false)) (some (.int v, false))) from rfl).trans (by rw [h1]; rfl)
  have h : (Ev.at ft (n + 18)).exec (scOf "add_callers") (stAt (ifB (stAt (forB (stAt (bdOf "add_callers") 2)) 0)) 0) (acL a b (some (.dict acc, true)) (some (.int k, false)) (some (.int v, false))) = some (.next, acL a b (some (.dict (storeE acc k (.int v)), true)) (some (.int k, false)) (some (.int v, false))) := by
    show (Ev.at ft (n + 18)).exec (scOf "add_callers") (.Assign [.Subscript (.Name _ _) _ _] _ _) _ = _
    simp only [x_sub, Option.map_some, Option.bind_some, ac_g3, ac_g4, ac_s4, ac_o2, ac_d2, ac_p3, ac_v4, h3, if_true, Bool.false_eq_true, if_false]
  rw [exec_if_f (rfl : stAt (forB (stAt (bdOf "add_callers") 2)) 0 = .If _ _ _ _) t1, ls1 (l := ifB (stAt (forB (stAt (bdOf "add_callers") 2)) 0)) rfl, execs_next (h), execs_nil]
/-- the tables' sum -/
noncomputable def addP (t : List (Int × Int)) (p : Int × Int) : List (Int × Int) := putI t p.1 (match getI t p.1 with | some w => w + p.2 | none => p.2)
noncomputable def addI (t s : List (Int × Int)) : List (Int × Int) := s.foldl addP t
theorem ac_lap2 {n : Nat} (acc : List (Int × Int)) (a b d e : O) (k v : Int) (hn : 22 ≤ n) (h3 : acc.length ≤ 100000) : lapAt n "add_callers" 2 (.tup [.int k, .int v]) (acL a b (some (.dict (toV acc), true)) d e) = some (.next, acL a b (some (.dict (toV (addP acc (k, v))), true)) (some (.int k, false)) (some (.int v, false))) := by
  obtain ⟨n, rfl⟩ := up hn
  have hs : small (toV acc).length = true := small_of (by rw [toV_len]; exact h3)
  rw [lap_eq, show target (scOf "add_callers") (forT (stAt (bdOf "add_callers") 2)) (.tup [.int k, .int v]) (acL a b (some (.dict (toV acc), true)) d e) = some (acL a b (some (.dict (toV acc), true)) (some (.int k, false)) (some (.int v, false))) from rfl, Option.bind_some, ls1 (l := forB (stAt (bdOf "add_callers") 2)) rfl, execs_cons]
  have hl := lookE_toV acc k
  cases hg : getI acc k with
  | some w =>
    rw [hg] at hl
    rw [ac_old (toV acc) a b k v w (by first | exact nle (by decide) | omega) hl hs, thn_next, execs_nil, storeE_toV]
    unfold addP; rw [hg]
  | none =>
    rw [hg] at hl
    rw [ac_new (toV acc) a b k v (by first | exact nle (by decide) | omega) hl hs, thn_next, execs_nil, storeE_toV]
    unfold addP; rw [hg]
theorem addP_length (t : List (Int × Int)) (p : Int × Int) : (addP t p).length ≤ t.length + 1 := putI_length _ _ _
noncomputable def pairV (p : Int × Int) : V := .tup [.int p.1, .int p.2]
theorem toV_pair (l : List (Int × Int)) : ((toV l).map fun e => V.tup [.int e.1, e.2]) = l.map pairV := by simp [toV, pairV]
theorem ac_laps2 {n : Nat} {a b : O} (hn : 22 ≤ n) : ∀ (r acc : List (Int × Int)) (d e : O), acc.length + r.length ≤ 100000 → ∃ d' e', forL (lapAt n "add_callers" 2) (r.map pairV) (acL a b (some (.dict (toV acc), true)) d e) = some (.next, acL a b (some (.dict (toV (addI acc r)), true)) d' e') := by
  intro r
  induction r with
  | nil => intro acc d e _; exact ⟨d, e, rfl⟩
  | cons p r ih =>
    intro acc d e hl
    rw [List.length_cons] at hl
    have := addP_length acc p
    obtain ⟨d', e', h⟩ := ih (addP acc p) (some (.int p.1, false)) (some (.int p.2, false)) (by first | exact nle (by decide) | omega)
    refine ⟨d', e', ?_⟩
    rw [List.map_cons, show pairV p = V.tup [.int p.1, .int p.2] from rfl, forL_next (ac_lap2 acc a b d e p.1 p.2 hn (by first | exact nle (by decide) | omega))]
    exact h
theorem ac_laps1 {n : Nat} {a b : O} (hn : 9 ≤ n) {l : List (Int × Int)} (hnd : (l.map (·.1)).Nodup) (hs : l.length ≤ 1000) : ∀ (r done : List (Int × Int)) (d e : O), l = done ++ r → ∃ d' e', forL (lapAt n "add_callers" 1) (r.map pairV) (acL a b (some (.dict (toV done), true)) d e) = some (.next, acL a b (some (.dict (toV l), true)) d' e') := by
  intro r
  induction r with
  | nil => intro done d e h; rw [List.append_nil] at h; subst h; exact ⟨d, e, rfl⟩
  | cons p r ih =>
    intro done d e h
    obtain ⟨d', e', h2⟩ := ih (done ++ [p]) (some (.int p.1, false)) (some (.int p.2, false)) (by rw [h]; simp)
    refine ⟨d', e', ?_⟩
    have hsm : small (toV done).length = true := small_of (by
      rw [toV_len]
      have := congrArg List.length h
      simp at this; omega)
    have hnew : p.1 ∉ (toV done).map (·.1) := by
      rw [toV_fst]
      rw [h, List.map_append, List.nodup_append] at hnd
      exact fun hk => hnd.2.2 _ hk p.1 (by simp) rfl
    rw [List.map_cons, show pairV p = V.tup [.int p.1, .int p.2] from rfl, forL_next (ac_lap1 (toV done) a b d e p.1 p.2 hn hsm), storeE_new hnew]
    rw [show toV done ++ [(p.1, V.int p.2)] = toV (done ++ [p]) by simp [toV]]
    exact h2
theorem add_callers_eq {n : Nat} {t s : List (Int × Int)} (hn : 40 ≤ n) (hnd : (t.map (·.1)).Nodup) (h1 : t.length ≤ 1000) (h2 : s.length ≤ 1000) : (Ev.at ft n).call (Str.ofString "add_callers") [.dict (toV t), .dict (toV s)] = some (.dict (toV (addI t s)), true) := by
  obtain ⟨n, rfl⟩ := up hn
  have s1 : small (toV t).length = true := small_of (by rw [toV_len]; omega)
  have s2 : small (toV s).length = true := small_of (by rw [toV_len]; omega)
  show (Ev.at ft (n + 40)).call (S "add_callers") _ = _
  obtain ⟨d1, e1, hl1⟩ := ac_laps1 (n := n + 36) (a := some (.dict (toV t), false)) (b := some (.dict (toV s), false)) (by first | exact nle (by decide) | omega) hnd h1 t [] none none rfl
  obtain ⟨d2, e2, hl2⟩ := ac_laps2 (n := n + 35) (a := some (.dict (toV t), false)) (b := some (.dict (toV s), false)) (by first | exact nle (by decide) | omega) s t d1 e1 (by first | exact nle (by decide) | omega)
  rw [call_at (g := "add_callers") rfl rfl, ls4 (l := bdOf "add_callers") rfl, ac_start, execs_cons, ac_0, thn_next, execs_cons, exec_for (rfl : stAt (bdOf "add_callers") 1 = .For _ _ _ [] _) rfl, ac_iter1, if_pos s1, Option.bind_some, toV_pair]
  · rw [show lapOf (Ev.at ft (n + 36)) (scOf "add_callers") (forT (stAt (bdOf "add_callers") 1)) (forB (stAt (bdOf "add_callers") 1)) = lapAt (n + 36) "add_callers" 1 from rfl]
    dsimp only
    rw [show (Option.some (V.dict ([] : List (Int × V)), true)) = some (.dict (toV []), true) from rfl, hl1, thn_next, execs_cons, exec_for (rfl : stAt (bdOf "add_callers") 2 = .For _ _ _ [] _) rfl, ac_iter2, if_pos s2, Option.bind_some, toV_pair]
    · rw [show lapOf (Ev.at ft (n + 35)) (scOf "add_callers") (forT (stAt (bdOf "add_callers") 2)) (forB (stAt (bdOf "add_callers") 2)) = lapAt (n + 35) "add_callers" 2 from rfl]
      dsimp only
      rw [hl2, thn_next, ac_end _ _ _ _ _ (by first | exact nle (by decide) | omega), retOf_ret]
    all_goals omega
  all_goals omega
end Mine
end
/-! Pu4 -/
section
set_option maxRecDepth 100000
set_option linter.unusedVariables false
namespace Mine
open PySem
noncomputable def asgV : Stmt → Expr | .Assign _ e _ => e | _ => .Constant .none 0 default
noncomputable def binRt : Expr → Expr | .BinOp _ _ r _ => r | _ => .Constant .none 0 default
noncomputable def lcE : Expr → Expr | .ListComp e _ _ _ => e | _ => .Constant .none 0 default
noncomputable def lcG : Expr → List Comprehension | .ListComp _ g _ _ => g | _ => []
noncomputable def lcS : Expr → Scope | .ListComp _ _ s _ => s | _ => { kind := .function, names := [], isGenerator := false, isCoroutine := false }
noncomputable def gAt (l : List Comprehension) (i : Nat) : Comprehension := (l[i]?).getD ⟨.Constant .none 0 default, .Constant .none 0 default, [], 0⟩
noncomputable def lcOk (sc : Scope) (gens : List Comprehension) (scope : Scope) (loc : Loc) : Bool := match gens with
  | [] => false
  | g :: rest => compOk sc scope && tgtOk sc g.iter g.target && gens.all (fun g => g.is_async == 0) && scope.names.all (fun (n, k) => k != .free || (loc.lookup n).isSome)
theorem listComp_eq {R : Ev} {sc : Scope} {elt : Expr} {gens : List Comprehension} {scope : Scope} {loc : Loc} (h : lcOk sc gens scope loc = true) : listComp R sc elt gens scope loc = (iter R sc (gAt gens 0).iter loc).bind fun p => (compG R scope elt gens p.1 (compLoc p.2 scope.names)).bind fun q => if small q.1.length = true then some (.list q.1, p.2) else none := by
  cases gens with
  | nil => cases h
  | cons g rest =>
    unfold listComp
    unfold lcOk at h
    dsimp only at h ⊢
    rw [if_pos h]
    rfl
theorem bind_of {α β : Type} {x : Option α} {a : α} {f : α → Option β} {r : Option β} (h : x = some a) (k : f a = r) : x.bind f = r := by rw [h]; exact k
/-- a comprehension of one for: each lap gives a list, the names stay in shape -/
theorem compL_map {α : Type} {f : V → Loc → Option (List V × Loc)} {mk : α → Loc} {g : V → List V} : ∀ {items : List V} {a : α}, (∀ v ∈ items, ∀ a, ∃ a', f v (mk a) = some (g v, mk a')) → ∃ a', compL f items (mk a) = some (items.flatMap g, mk a')
  | [], a, _ => ⟨a, rfl⟩
  | v :: r, a, h => by
    obtain ⟨a1, h1⟩ := h v (.head _) a
    obtain ⟨a2, h2⟩ := compL_map (items := r) (a := a1) fun w hw => h w (.tail _ hw)
    refine ⟨a2, ?_⟩
    simp only [compL_c, h1, h2, Option.bind_eq_bind, Option.bind_some, List.flatMap_cons]

theorem subI_self {es : List (Int × V)} (hn : (es.map (·.1)).Nodup) : ∀ {l : List (Int × V)}, (∀ p ∈ l, p ∈ es) → intE l = true → subE l es = true
  | [], _, _ => rfl
  | (k, v) :: r, hs, hi => by
    obtain ⟨i, rfl, hi'⟩ := inv_intE hi
    show (match lookE es k with | some (.int j) => i == j && subE r es | _ => false) = true
    rw [lookE_mem' hn (hs _ (.head _))]
    show (i == i && subE r es) = true
    rw [beq_self_eq_true, Bool.true_and]
    exact subI_self hn (fun p hp => hs p (.tail _ hp)) hi'
theorem eqD_self {l : List (Int × Int)} (hn : (l.map (·.1)).Nodup) : eqD (toV l) (toV l) = true := by
  unfold eqD
  rw [beq_self_eq_true, Bool.true_and]
  exact subI_self (by rw [toV_fst]; exact hn) (fun p hp => hp) (intE_toV l)

/-! _law_added -/
noncomputable def adL (a0 a1 a2 a3 a4 a5 : O) : Loc := [(Str.ofString "one", a0), (Str.ofString "other", a1), (Str.ofString "elder", a2), (Str.ofString "made", a3), (Str.ofString "told", a4), (Str.ofString "keys", a5)]
section
variable (a0 a1 a2 a3 a4 a5 p : O)
theorem ad_g0 : getL (adL a0 a1 a2 a3 a4 a5) (Str.ofString "one") = a0 := by cases a0 <;> rfl
theorem ad_s0 : setL (adL a0 a1 a2 a3 a4 a5) (Str.ofString "one") p = adL p a1 a2 a3 a4 a5 := rfl
theorem ad_g1 : getL (adL a0 a1 a2 a3 a4 a5) (Str.ofString "other") = a1 := by cases a1 <;> rfl
theorem ad_s1 : setL (adL a0 a1 a2 a3 a4 a5) (Str.ofString "other") p = adL a0 p a2 a3 a4 a5 := rfl
theorem ad_g2 : getL (adL a0 a1 a2 a3 a4 a5) (Str.ofString "elder") = a2 := by cases a2 <;> rfl
theorem ad_g3 : getL (adL a0 a1 a2 a3 a4 a5) (Str.ofString "made") = a3 := by cases a3 <;> rfl
theorem ad_g4 : getL (adL a0 a1 a2 a3 a4 a5) (Str.ofString "told") = a4 := by cases a4 <;> rfl
theorem ad_s4 : setL (adL a0 a1 a2 a3 a4 a5) (Str.ofString "told") p = adL a0 a1 a2 a3 p a5 := rfl
theorem ad_g5 : getL (adL a0 a1 a2 a3 a4 a5) (Str.ofString "keys") = a5 := by cases a5 <;> rfl
theorem ad_k0 : kindAt (scOf "_law_added") (Str.ofString "one") = some .cell := rfl
theorem ad_k1 : kindAt (scOf "_law_added") (Str.ofString "other") = some .local := rfl
theorem ad_k2 : kindAt (scOf "_law_added") (Str.ofString "elder") = some .local := rfl
theorem ad_k3 : kindAt (scOf "_law_added") (Str.ofString "made") = some .local := rfl
theorem ad_k4 : kindAt (scOf "_law_added") (Str.ofString "told") = some .local := rfl
theorem ad_k5 : kindAt (scOf "_law_added") (Str.ofString "keys") = some .local := rfl
end
theorem ad_p0 (R : Ev) (loc : Loc) (p : Pos) : pk R (scOf "_law_added") (.Name (Str.ofString "one") p) loc = (getL loc (Str.ofString "one")).map fun q => (q.1, loc) := pk_nm _ _ _ _ _ (by rw [ad_k0]; rfl)
theorem ad_v0 (R : Ev) (loc : Loc) (p : Pos) : val R (scOf "_law_added") (.Name (Str.ofString "one") p) loc = (getL loc (Str.ofString "one")).map fun q => (q.1, if q.2 = true then setL loc (Str.ofString "one") (some (q.1, false)) else loc) := val_nm _ _ _ _ _ (by rw [ad_k0]; rfl)
theorem ad_p1 (R : Ev) (loc : Loc) (p : Pos) : pk R (scOf "_law_added") (.Name (Str.ofString "other") p) loc = (getL loc (Str.ofString "other")).map fun q => (q.1, loc) := pk_nm _ _ _ _ _ (by rw [ad_k1]; rfl)
theorem ad_v1 (R : Ev) (loc : Loc) (p : Pos) : val R (scOf "_law_added") (.Name (Str.ofString "other") p) loc = (getL loc (Str.ofString "other")).map fun q => (q.1, if q.2 = true then setL loc (Str.ofString "other") (some (q.1, false)) else loc) := val_nm _ _ _ _ _ (by rw [ad_k1]; rfl)
theorem ad_p2 (R : Ev) (loc : Loc) (p : Pos) : pk R (scOf "_law_added") (.Name (Str.ofString "elder") p) loc = (getL loc (Str.ofString "elder")).map fun q => (q.1, loc) := pk_nm _ _ _ _ _ (by rw [ad_k2]; rfl)
theorem ad_u2 (a0 a1 a2 a3 a4 a5 : O) (v : V) (b : Bool) : putN (scOf "_law_added") (Str.ofString "elder") v b (adL a0 a1 a2 a3 a4 a5) = some (adL a0 a1 (some (v, b)) a3 a4 a5) := rfl
theorem ad_p3 (R : Ev) (loc : Loc) (p : Pos) : pk R (scOf "_law_added") (.Name (Str.ofString "made") p) loc = (getL loc (Str.ofString "made")).map fun q => (q.1, loc) := pk_nm _ _ _ _ _ (by rw [ad_k3]; rfl)
theorem ad_u3 (a0 a1 a2 a3 a4 a5 : O) (v : V) (b : Bool) : putN (scOf "_law_added") (Str.ofString "made") v b (adL a0 a1 a2 a3 a4 a5) = some (adL a0 a1 a2 (some (v, b)) a4 a5) := rfl
theorem ad_o3 (a0 a1 a2 a4 a5 : O) (v : V) : ownsN (adL a0 a1 a2 (some (v, true)) a4 a5) (Str.ofString "made") = true := rfl
theorem ad_d3 (a0 a1 a2 a4 a5 : O) (es : List (Int × V)) (k : Int) (v : V) : putItem (scOf "_law_added") (Str.ofString "made") (.int k) v (adL a0 a1 a2 (some (.dict es, true)) a4 a5) = if small es.length = true then some (adL a0 a1 a2 (some (.dict (storeE es k v), true)) a4 a5) else none := rfl
theorem ad_p4 (R : Ev) (loc : Loc) (p : Pos) : pk R (scOf "_law_added") (.Name (Str.ofString "told") p) loc = (getL loc (Str.ofString "told")).map fun q => (q.1, loc) := pk_nm _ _ _ _ _ (by rw [ad_k4]; rfl)
theorem ad_e4 (n : Nat) (loc : Loc) (p : Pos) : (Ev.at ft (n + 1)).ev (scOf "_law_added") (.Name (Str.ofString "told") p) loc = (getL loc (Str.ofString "told")).bind fun q => some (q.1, q.2, if q.2 = true then setL loc (Str.ofString "told") none else loc) := v_nm _ _ _ _ _ (by rw [ad_k4]; rfl)
theorem ad_u4 (a0 a1 a2 a3 a4 a5 : O) (v : V) (b : Bool) : putN (scOf "_law_added") (Str.ofString "told") v b (adL a0 a1 a2 a3 a4 a5) = some (adL a0 a1 a2 a3 (some (v, b)) a5) := rfl
theorem ad_p5 (R : Ev) (loc : Loc) (p : Pos) : pk R (scOf "_law_added") (.Name (Str.ofString "keys") p) loc = (getL loc (Str.ofString "keys")).map fun q => (q.1, loc) := pk_nm _ _ _ _ _ (by rw [ad_k5]; rfl)
theorem ad_u5 (a0 a1 a2 a3 a4 a5 : O) (v : V) (b : Bool) : putN (scOf "_law_added") (Str.ofString "keys") v b (adL a0 a1 a2 a3 a4 a5) = some (adL a0 a1 a2 a3 a4 (some (v, b))) := rfl
theorem ad_c_dict (n : Nat) (loc : Loc) (p q : Pos) (e : Expr) (r : List Expr) : (Ev.at ft (n + 1)).ev (scOf "_law_added") (.Call (.Name (Str.ofString "dict") p) (e :: r) [] q) loc = (pks (Ev.at ft n) (scOf "_law_added") (e :: r) loc).bind fun t => (builtV "dict" t.1).bind fun v => some (v, false, t.2) := v_built _ _ _ _ _ _ _ _ rfl rfl rfl rfl rfl rfl
theorem ad_c_add_callers (n : Nat) (loc : Loc) (p q : Pos) (e : Expr) (r : List Expr) : (Ev.at ft (n + 1)).ev (scOf "_law_added") (.Call (.Name (Str.ofString "add_callers") p) (e :: r) [] q) loc = (vals (Ev.at ft n) (scOf "_law_added") (e :: r) loc).bind fun t => ((Ev.at ft n).call (Str.ofString "add_callers") t.1).bind fun u => some (u.1, u.2, t.2) := v_call _ _ _ _ _ _ _ rfl rfl rfl rfl rfl
theorem ad_c_list (n : Nat) (loc : Loc) (p q : Pos) (e : Expr) (r : List Expr) : (Ev.at ft (n + 1)).ev (scOf "_law_added") (.Call (.Name (Str.ofString "list") p) (e :: r) [] q) loc = (pks (Ev.at ft n) (scOf "_law_added") (e :: r) loc).bind fun t => (builtV "list" t.1).bind fun v => some (v, false, t.2) := v_built _ _ _ _ _ _ _ _ rfl rfl rfl rfl rfl rfl
theorem ad_start (x y : V) : fLoc (fdAt "_law_added") [x, y] = adL (some (x, false)) (some (y, false)) none none none none := rfl
theorem built_dict {es : List (Int × V)} (h : small es.length = true) : builtV "dict" [.dict es] = some (.dict es) := by
  show (if small es.length = true then _ else _) = _; rw [if_pos h]
theorem built_list {es : List (Int × V)} (h : small es.length = true) : builtV "list" [.dict es] = some (.list (es.map fun e => .int e.1)) := by
  show (if small es.length = true then _ else _) = _; rw [if_pos h]
theorem small2 (a b : V) : small [a, b].length = true := rfl
theorem ad_0 {n : Nat} (t s : List (Int × V)) (c d e f : O) (hn : 20 ≤ n) (ht : small t.length = true) (hs : small s.length = true) :
    (Ev.at ft n).exec (scOf "_law_added") (stAt (bdOf "_law_added") 0) (adL (some (.dict t, false)) (some (.dict s, false)) c d e f) = some (.next, adL (some (.dict t, false)) (some (.dict s, false)) (some (.tup [.dict t, .dict s], false)) d e f) := by
  obtain ⟨n, rfl⟩ := up hn
  show (Ev.at ft (n + 20)).exec (scOf "_law_added") (.Assign [.Name _ _] (.Tuple [.Call _ [_] [] _, .Call _ [_] [] _] _ _) _) _ = _
  simp only [val_Call, v_tup, x_asg, Option.map_some, Option.bind_some, vals_nil, vals_cons, pks_nil, pks_cons, Option.bind_eq_bind, ad_g0, ad_g1, ad_p0, ad_p1, ad_u2, ad_c_dict, built_dict ht, built_dict hs, small2, if_true]
theorem ad_1 {n : Nat} (t s : List (Int × Int)) (c d e f : O) (hn : 60 ≤ n) (hnd : (t.map (·.1)).Nodup) (h1 : t.length ≤ 1000) (h2 : s.length ≤ 1000) :
    (Ev.at ft n).exec (scOf "_law_added") (stAt (bdOf "_law_added") 1) (adL (some (.dict (toV t), false)) (some (.dict (toV s), false)) c d e f) = some (.next, adL (some (.dict (toV t), false)) (some (.dict (toV s), false)) c (some (.dict (toV (addI t s)), true)) e f) := by
  obtain ⟨n, rfl⟩ := up hn
  have h : (Ev.at ft (n + 58)).call (Str.ofString "add_callers") [.dict (toV t), .dict (toV s)] = some (.dict (toV (addI t s)), true) := add_callers_eq (by first | exact nle (by decide) | omega) hnd h1 h2
  show (Ev.at ft (n + 60)).exec (scOf "_law_added") (.Assign [.Name _ _] (.Call _ [_, _] [] _) _) _ = _
  simp only [x_asg, Option.map_some, Option.bind_some, vals_nil, vals_cons, Option.bind_eq_bind, ad_g0, ad_s0, ad_g1, ad_s1, ad_v0, ad_v1, ad_u3, ad_c_add_callers, h, Bool.false_eq_true, if_false]
theorem ad_2 {n : Nat} (m : List (Int × V)) (a b c e f : O) (hn : 20 ≤ n) (hs : small m.length = true) :
    (Ev.at ft n).exec (scOf "_law_added") (stAt (bdOf "_law_added") 2) (adL a b c (some (.dict m, true)) e f) = some (.next, adL a b c (some (.dict m, true)) (some (.dict m, false)) f) := by
  obtain ⟨n, rfl⟩ := up hn
  show (Ev.at ft (n + 20)).exec (scOf "_law_added") (.Assign [.Name _ _] (.Call _ [_] [] _) _) _ = _
  simp only [x_asg, Option.map_some, Option.bind_some, pks_nil, pks_cons, Option.bind_eq_bind, ad_g3, ad_p3, ad_u4, ad_c_dict, built_dict hs]
theorem ad_3 {n : Nat} (m : List (Int × V)) (a b c e f : O) (hn : 20 ≤ n) (hs : small m.length = true) :
    (Ev.at ft n).exec (scOf "_law_added") (stAt (bdOf "_law_added") 3) (adL a b c (some (.dict m, true)) e f) = some (.next, adL a b c (some (.dict (storeE m 1000 (.int 1)), true)) e f) := by
  obtain ⟨n, rfl⟩ := up hn
  show (Ev.at ft (n + 20)).exec (scOf "_law_added") (.Assign [.Subscript (.Name _ _) _ _] _ _) _ = _
  simp only [val_Constant, pk_Constant, v_int, x_sub, Option.map_some, Option.bind_some, ad_o3, ad_d3, hs, if_true]
noncomputable abbrev adX : Expr := binRt (asgV (stAt (bdOf "_law_added") 4))
noncomputable def adC (t : List (Int × V)) (p : O × O) : Loc := [(Str.ofString ".0", p.1), (Str.ofString "key", p.2), (Str.ofString "one", some (.dict t, false))]
theorem ad_lap {n : Nat} (t : List (Int × V)) (rec : List V → Loc → Option (List V × Loc)) (k : Int) (a : O × O) (hn : 10 ≤ n) : ∃ a', lapV (Ev.at ft n) rec (lcS adX) (lcE adX) (gAt (lcG adX) 0) [] (.int k) (adC t a) = some (if (!(lookE t k).isSome) = true then [.int k] else [], adC t a') := by
  obtain ⟨n, rfl⟩ := up hn
  refine ⟨(a.1, some (.int k, false)), ?_⟩
  unfold lapV
  rw [show target (lcS adX) (gAt (lcG adX) 0).target (.int k) (adC t a) = some (adC t (a.1, some (.int k, false))) from rfl, Option.bind_eq_bind, Option.bind_some]
  rw [show tests (Ev.at ft (n + 10)) (lcS adX) (gAt (lcG adX) 0).ifs (adC t (a.1, some (.int k, false))) = if (!(lookE t k).isSome) = true then some (true, adC t (a.1, some (.int k, false))) else some (false, adC t (a.1, some (.int k, false))) from rfl]
  cases (!(lookE t k).isSome) <;> rfl
theorem ad_comp {n : Nat} (t s : List (Int × V)) (c d e f : O) (hn : 20 ≤ n) (hs : s.length ≤ 1000) : listComp (Ev.at ft n) (scOf "_law_added") (lcE adX) (lcG adX) (lcS adX) (adL (some (.dict t, false)) (some (.dict s, false)) c d e f) =
    some (.list ((s.map fun e => V.int e.1).flatMap fun v => match v with | .int k => if (!(lookE t k).isSome) = true then [.int k] else [] | _ => []), adL (some (.dict t, false)) (some (.dict s, false)) c d e f) := by
  obtain ⟨n, rfl⟩ := up hn
  have hsm : small (s.map fun e => V.int e.1).length = true := small_of (by rw [List.length_map]; omega)
  rw [listComp_eq (rfl : lcOk _ _ _ (adL (some (.dict t, false)) (some (.dict s, false)) c d e f) = true)]
  refine bind_of (a := (s.map fun e => V.int e.1, adL (some (.dict t, false)) (some (.dict s, false)) c d e f)) ?_ ?_
  · exact (show _ = (if small (s.map fun e => V.int e.1).length = true then some (s.map (fun e => V.int e.1), adL (some (.dict t, false)) (some (.dict s, false)) c d e f) else none) from rfl).trans (if_pos hsm)
  · obtain ⟨a', h⟩ := compL_map (f := lapV (Ev.at ft (n + 20)) (compG (Ev.at ft (n + 20)) (lcS adX) (lcE adX) []) (lcS adX) (lcE adX) (gAt (lcG adX) 0) []) (mk := adC t) (g := fun v => match v with | .int k => if (!(lookE t k).isSome) = true then [.int k] else [] | _ => []) (items := s.map fun e => V.int e.1) (a := (none, none)) (fun v hv a => by
      obtain ⟨p, _, rfl⟩ := List.mem_map.mp hv
      exact ad_lap t _ p.1 a (by first | exact nle (by decide) | omega))
    refine bind_of (a := (_, adC t a')) h (if_pos (small_of ?_))
    have : ∀ l : List V, (l.flatMap fun v => match v with | .int k => if (!(lookE t k).isSome) = true then [V.int k] else [] | _ => []).length ≤ l.length := by
      intro l
      induction l with
      | nil => simp
      | cons v l ih =>
        rw [List.flatMap_cons, List.length_append, List.length_cons]
        have : (match v with | .int k => if (!(lookE t k).isSome) = true then [V.int k] else [] | _ => ([] : List V)).length ≤ 1 := by
          split
          · split <;> simp
          · simp
        omega
    have := this (s.map fun e => V.int e.1)
    rw [List.length_map] at this
    dsimp only
    omega
end Mine
end
/-! Pu5 -/
section
set_option maxRecDepth 100000
set_option linter.unusedVariables false
namespace Mine
open PySem
theorem getI_none {t : List (Int × Int)} {k : Int} : getI t k = none ↔ k ∉ t.map (·.1) := by
  rw [← getI_isSome]
  cases getI t k <;> simp
theorem addP_keys (t : List (Int × Int)) (p : Int × Int) : (addP t p).map (·.1) = if (getI t p.1).isSome then t.map (·.1) else t.map (·.1) ++ [p.1] := putI_keys _ _ _
theorem addP_nodup {t : List (Int × Int)} {p : Int × Int} (h : (t.map (·.1)).Nodup) : ((addP t p).map (·.1)).Nodup := by
  rw [addP_keys]
  split
  · exact h
  · rename_i q
    rw [List.nodup_append]
    refine ⟨h, by simp, fun a ha b hb => ?_⟩
    rw [List.mem_singleton] at hb
    subst hb
    intro e
    exact q ((getI_isSome t p.1).mpr (e ▸ ha))
theorem addI_nodup : ∀ {s t : List (Int × Int)}, (t.map (·.1)).Nodup → ((addI t s).map (·.1)).Nodup
  | [], _, h => h
  | p :: s, t, h => addI_nodup (s := s) (addP_nodup h)
theorem addI_length : ∀ (s t : List (Int × Int)), (addI t s).length ≤ t.length + s.length
  | [], t => by simp [addI]
  | p :: s, t => by
    have h1 := addI_length s (addP t p)
    have h2 := addP_length t p
    show (addI (addP t p) s).length ≤ _
    rw [List.length_cons]; omega
theorem getI_addP (t : List (Int × Int)) (p : Int × Int) (x : Int) : getI (addP t p) x = if p.1 = x then some (match getI t x with | some w => w + p.2 | none => p.2) else getI t x := by
  unfold addP
  rw [getI_putI]
  split
  · rename_i h; subst h; rfl
  · rfl
theorem addI_keys : ∀ {s t : List (Int × Int)}, (s.map (·.1)).Nodup → (addI t s).map (·.1) = t.map (·.1) ++ (s.map (·.1)).filter (fun k => !(getI t k).isSome)
  | [], t, _ => by simp [addI]
  | p :: s, t, h => by
    rw [List.map_cons, List.nodup_cons] at h
    show (addI (addP t p) s).map (·.1) = _
    rw [addI_keys h.2, addP_keys, List.map_cons, List.filter_cons]
    have e : (s.map (·.1)).filter (fun k => !(getI (addP t p) k).isSome) = (s.map (·.1)).filter (fun k => !(getI t k).isSome) := by
      refine List.filter_congr fun k hk => ?_
      rw [getI_addP, if_neg (fun (q : p.1 = k) => h.1 (q ▸ hk))]
    rw [e]
    cases (getI t p.1).isSome <;> simp

theorem pk_adX (n : Nat) (loc : Loc) : pk (Ev.at ft (n + 1)) (scOf "_law_added") adX loc = ((listComp (Ev.at ft n) (scOf "_law_added") (lcE adX) (lcG adX) (lcS adX) loc).bind fun t => some (t.1, false, t.2)).map fun x => (x.1, x.2.2) := rfl
theorem flat_filter {P : Int → Bool} {f : V → List V} (hf : ∀ k, f (.int k) = if P k = true then [.int k] else []) : ∀ l : List Int, (l.map V.int).flatMap f = (l.filter P).map V.int
  | [] => rfl
  | k :: l => by
    rw [List.map_cons, List.flatMap_cons, flat_filter hf l, hf, List.filter_cons]
    cases P k <;> simp
theorem keysV (l : List (Int × Int)) : ((toV l).map fun e => V.int e.1) = (l.map (·.1)).map V.int := by simp [toV]
theorem add_lists {a b : List V} (h : small (a.length + b.length) = true) : binV .Add (.list a) (.list b) = some (.list (a ++ b)) := by
  show (if small (a.length + b.length) = true then _ else _) = _
  rw [if_pos h]
theorem ad_4 {n : Nat} (t s : List (Int × Int)) (c d e f : O) (hn : 40 ≤ n) (h1 : t.length ≤ 1000) (h2 : s.length ≤ 1000) :
    (Ev.at ft n).exec (scOf "_law_added") (stAt (bdOf "_law_added") 4) (adL (some (.dict (toV t), false)) (some (.dict (toV s), false)) c d e f) = some (.next, adL (some (.dict (toV t), false)) (some (.dict (toV s), false)) c d e (some (.list ((t.map (·.1) ++ (s.map (·.1)).filter (fun k => !(getI t k).isSome)).map V.int), false))) := by
  obtain ⟨n, rfl⟩ := up hn
  have ht : small (toV t).length = true := small_of (by rw [toV_len]; omega)
  have hc := ad_comp (n := n + 37) (toV t) (toV s) c d e f (by first | exact nle (by decide) | omega) (by rw [toV_len]; exact h2)
  rw [keysV, flat_filter (P := fun k => !(getI t k).isSome) (fun k => by
    have := lookE_toV t k
    dsimp only
    rw [this]
    cases getI t k <;> rfl)] at hc
  have hl : small (((t.map (·.1)).map V.int).length + (((s.map (·.1)).filter (fun k => !(getI t k).isSome)).map V.int).length) = true := small_of (by
    simp only [List.length_map]
    have := List.length_filter_le (fun k => !(getI t k).isSome) (s.map (·.1))
    rw [List.length_map] at this
    omega)
  show (Ev.at ft (n + 40)).exec (scOf "_law_added") (.Assign [.Name _ _] (.BinOp (.Call _ [_] [] _) .Add adX _) _) _ = _
  simp only [pk_Call, v_bin, x_asg, Option.map_some, Option.bind_some, pks_nil, pks_cons, Option.bind_eq_bind, ad_g0, ad_p0, ad_u5, ad_c_list, built_list ht, pk_adX, hc, keysV, add_lists hl, List.map_append]
theorem cmp_tups {t s : List (Int × Int)} (h1 : (t.map (·.1)).Nodup) (h2 : (s.map (·.1)).Nodup) : cmpV .Eq (.tup [.dict (toV t), .dict (toV s)]) (.tup [.dict (toV t), .dict (toV s)]) = some true := by
  show eqAll [.dict (toV t), .dict (toV s)] [.dict (toV t), .dict (toV s)] = _
  have e : ∀ {l : List (Int × Int)}, (l.map (·.1)).Nodup → eq1 (.dict (toV l)) (.dict (toV l)) = some true := fun {l} h => by
    show (if (intE (toV l) && intE (toV l)) = true then some (eqD (toV l) (toV l)) else none) = _
    rw [intE_toV, eqD_self h]; rfl
  show (eq1 _ _ >>= fun x => (eq1 _ _ >>= fun y => some true >>= fun z => some (y && z)) >>= fun y => some (x && y)) = _
  rw [e h1, e h2]; rfl
theorem intsV_map' : ∀ ns : List Int, intsV (ns.map V.int) = some ns
  | [] => rfl
  | n :: r => by
    show (intsV (r.map V.int)).map (n :: ·) = _
    rw [intsV_map' r]; rfl
theorem cmp_lists (l : List Int) : cmpV .Eq (.list (l.map V.int)) (.list (l.map V.int)) = some true := by
  show (match intsV (l.map V.int), intsV (l.map V.int) with
    | some x, some y => some (decide (x = y))
    | _, _ => none) = _
  rw [intsV_map']; simp
theorem ad_5 {n : Nat} (t s m : List (Int × Int)) (d : O) (hn : 40 ≤ n) (h1 : (t.map (·.1)).Nodup) (h2 : (s.map (·.1)).Nodup) (hm : m.length ≤ 100000) :
    (Ev.at ft n).execs (scOf "_law_added") [stAt (bdOf "_law_added") 5] (adL (some (.dict (toV t), false)) (some (.dict (toV s), false)) (some (.tup [.dict (toV t), .dict (toV s)], false)) d (some (.dict (toV m), false)) (some (.list ((m.map (·.1)).map V.int), false))) =
      some (.ret (.dict (toV m)) false, adL (some (.dict (toV t), false)) (some (.dict (toV s), false)) (some (.tup [.dict (toV t), .dict (toV s)], false)) d (some (.dict (toV m), false)) (some (.list ((m.map (·.1)).map V.int), false))) := by
  obtain ⟨n, rfl⟩ := up hn
  have hs : small (toV m).length = true := small_of (by rw [toV_len]; exact hm)
  have h : (Ev.at ft (n + 39)).exec (scOf "_law_added") (stAt (bdOf "_law_added") 5) (adL (some (.dict (toV t), false)) (some (.dict (toV s), false)) (some (.tup [.dict (toV t), .dict (toV s)], false)) d (some (.dict (toV m), false)) (some (.list ((m.map (·.1)).map V.int), false))) =
      some (.ret (.dict (toV m)) false, adL (some (.dict (toV t), false)) (some (.dict (toV s), false)) (some (.tup [.dict (toV t), .dict (toV s)], false)) d (some (.dict (toV m), false)) (some (.list ((m.map (·.1)).map V.int), false))) := by
    show (Ev.at ft (n + 39)).exec (scOf "_law_added") (.Return (some (.IfExp (.BoolOp .And [.Compare (.Tuple [_, _] _ _) [.Eq] [_] _, .Compare (.Call _ [_] [] _) [.Eq] [_] _] _) (.Name _ _) _ _)) _) _ = _
    simp only [pk_Tuple, pk_Call, v_if, v_dict, v_tup, x_ret, t_cmp, t_and, Option.map_some, Option.bind_some, vals_nil, vals_cons, pks_nil, pks_cons, Option.bind_eq_bind, ad_g0, ad_s0, ad_g1, ad_s1, ad_g2, ad_g4, ad_s4, ad_g5, ad_v0, ad_v1, ad_p2, ad_p4, ad_e4, ad_p5, ad_c_list, allT_n, allT_c, small2, if_true, Bool.false_eq_true, if_false, built_list hs, keysV, cmp_tups h1 h2, cmp_lists]
  rw [execs_done (h)]
theorem added_eq {n : Nat} {t s : List (Int × Int)} (hn : 80 ≤ n) (hnd : (t.map (·.1)).Nodup) (hnd2 : (s.map (·.1)).Nodup) (h1 : t.length ≤ 1000) (h2 : s.length ≤ 1000) : (Ev.at ft n).call (Str.ofString "_law_added") [.dict (toV t), .dict (toV s)] = some (.dict (toV (addI t s)), false) := by
  obtain ⟨n, rfl⟩ := up hn
  have hl := addI_length s t
  have hm : small (toV (addI t s)).length = true := small_of (by rw [toV_len]; omega)
  show (Ev.at ft (n + 80)).call (S "_law_added") _ = _
  rw [call_at (g := "_law_added") rfl rfl, ls6 (l := bdOf "_law_added") rfl, ad_start, execs_cons, ad_0, thn_next, execs_cons, ad_1, thn_next, execs_cons, ad_2, thn_next, execs_cons, ad_3, thn_next, execs_cons, ad_4, thn_next, ← addI_keys hnd2, ad_5, retOf_ret]
  all_goals first | omega | assumption | (exact small_of (by rw [toV_len]; omega))
end Mine
end
/-! Pu6 -/
section
set_option maxRecDepth 100000
set_option linter.unusedVariables false
namespace Mine
open PySem
theorem mod_ok {a b : Int} (h : b ≠ 0) : binV .Mod (.int a) (.int b) = some (.int (a.fmod b)) := by
  show (if decide (b ≠ 0) = true then _ else _) = _
  rw [if_pos (decide_eq_true h)]
theorem fdiv_ok {a b : Int} (h : 0 < b) (h2 : b < 1000000000) : binV .FloorDiv (.int a) (.int b) = some (.int (a.fdiv b)) := by
  show (if (decide (0 < b) && decide (b < 1000000000)) = true then _ else _) = _
  rw [if_pos (by rw [decide_eq_true h, decide_eq_true h2]; rfl)]
theorem item_list {vs : List V} {i : Int} {v : V} (h0 : 0 ≤ i) (h1 : i < 1000000) (h : vs[i.toNat]? = some v) : itemV (.list vs) (.int i) = some v := by
  show (if (decide (0 ≤ i) && decide (i < 1000000)) = true then vs[i.toNat]? else none) = _
  rw [if_pos (by rw [decide_eq_true h0, decide_eq_true h1]; rfl), h]
/-! _law_cells -/
noncomputable def ceL (a0 a1 a2 a3 : O) : Loc := [(Str.ofString "script", a0), (Str.ofString "cells", a1), (Str.ofString "place", a2), (Str.ofString "number", a3)]
section
variable (a0 a1 a2 a3 p : O)
theorem ce_g1 : getL (ceL a0 a1 a2 a3) (Str.ofString "cells") = a1 := by cases a1 <;> rfl
theorem ce_g2 : getL (ceL a0 a1 a2 a3) (Str.ofString "place") = a2 := by cases a2 <;> rfl
theorem ce_g3 : getL (ceL a0 a1 a2 a3) (Str.ofString "number") = a3 := by cases a3 <;> rfl
theorem ce_k1 : kindAt (scOf "_law_cells") (Str.ofString "cells") = some .local := rfl
theorem ce_k2 : kindAt (scOf "_law_cells") (Str.ofString "place") = some .local := rfl
theorem ce_k3 : kindAt (scOf "_law_cells") (Str.ofString "number") = some .local := rfl
end
theorem ce_q1 (a0 a2 a3 : O) (vs : List V) (k : Int) (v : V) : putItem (scOf "_law_cells") (Str.ofString "cells") (.int k) v (ceL a0 (some (.list vs, true)) a2 a3) = if (decide (0 ≤ k) && decide (k.toNat < vs.length) && small vs.length) = true then some (ceL a0 (some (.list (vs.set k.toNat v), true)) a2 a3) else none := rfl
theorem ce_p2 (R : Ev) (loc : Loc) (p : Pos) : pk R (scOf "_law_cells") (.Name (Str.ofString "place") p) loc = (getL loc (Str.ofString "place")).map fun q => (q.1, loc) := pk_nm _ _ _ _ _ (by rw [ce_k2]; rfl)
theorem ce_p3 (R : Ev) (loc : Loc) (p : Pos) : pk R (scOf "_law_cells") (.Name (Str.ofString "number") p) loc = (getL loc (Str.ofString "number")).map fun q => (q.1, loc) := pk_nm _ _ _ _ _ (by rw [ce_k3]; rfl)
theorem ce_start (x : V) : fLoc (fdAt "_law_cells") [x] = ceL (some (x, false)) none none none := rfl
theorem ce_0 {n : Nat} (a b c d : O) (hn : 20 ≤ n) : (Ev.at ft n).exec (scOf "_law_cells") (stAt (bdOf "_law_cells") 0) (ceL a b c d) = some (.next, ceL a (some (.list ([22, 9, 5, 14, 3, 2585].map V.int), true)) c d) := by obtain ⟨n, rfl⟩ := up hn; rfl
theorem ce_iter {n : Nat} (vs : List V) (b c d : O) (hn : 20 ≤ n) (h : vs.length ≤ 100000) : iter (Ev.at ft n) (scOf "_law_cells") (forI (stAt (bdOf "_law_cells") 1)) (ceL (some (.src vs, false)) b c d) = some (enumFrom 0 (vs.take 60), ceL (some (.src vs, false)) b c d) := by
  obtain ⟨n, rfl⟩ := up hn
  have h1 : cutV (.src vs) none (some (.int 60)) = some (.list (vs.take 60)) := by
    show (if (decide ((0 : Int) ≤ 60) && decide ((60 : Int) < 1000000) && small vs.length) = true then some (V.list (vs.take (60 : Int).toNat)) else none) = _
    rw [if_pos (by rw [small_of h]; rfl)]; rfl
  have h2 : small (vs.take 60).length = true := small_of (by rw [List.length_take]; omega)
  have e : iter (Ev.at ft (n + 20)) (scOf "_law_cells") (forI (stAt (bdOf "_law_cells") 1)) (ceL (some (.src vs, false)) b c d) = (((cutV (.src vs) none (some (.int 60))).bind fun r => some (r, false, ceL (some (.src vs, false)) b c d)).map fun x => (x.1, x.2.2)).bind fun p => match p.1 with
    | .list us => if small us.length = true then some (enumFrom 0 us, p.2) else none
    | _ => none := rfl
  rw [e, h1]
  show (if small (vs.take 60).length = true then _ else _) = _
  rw [if_pos h2]
theorem ce_end {n : Nat} (a c d : O) (v : V) (hn : 8 ≤ n) : (Ev.at ft n).execs (scOf "_law_cells") [stAt (bdOf "_law_cells") 2] (ceL a (some (v, true)) c d) = some (.ret v true, ceL a none c d) := by obtain ⟨n, rfl⟩ := up hn; rfl
theorem ce_lap {n : Nat} (a c d : O) (cs : List Int) (p x y : Int) (hn : 30 ≤ n) (h1 : cs.length = 6) (h2 : cs[(p.fmod 6).toNat]? = some y) (h3 : 0 ≤ p.fmod 6) (h4 : p.fmod 6 < 6) : lapAt n "_law_cells" 1 (.tup [.int p, .int x]) (ceL a (some (.list (cs.map V.int), true)) c d) =
    some (.next, ceL a (some (.list ((cs.set (p.fmod 6).toNat (y + x.fmod 1000000)).map V.int), true)) (some (.int p, false)) (some (.int x, false))) := by
  obtain ⟨n, rfl⟩ := up hn
  have hi : itemV (.list (cs.map V.int)) (.int (p.fmod 6)) = some (.int y) := item_list h3 (by first | exact nle (by decide) | omega) (by rw [List.getElem?_map, h2]; rfl)
  have hk : (decide (0 ≤ p.fmod 6) && decide ((p.fmod 6).toNat < (cs.map V.int).length) && small (cs.map V.int).length) = true := by
    rw [decide_eq_true h3, decide_eq_true (by rw [List.length_map]; omega), small_of (by rw [List.length_map]; omega)]; rfl
  have h : (Ev.at ft (n + 29)).exec (scOf "_law_cells") (stAt (forB (stAt (bdOf "_law_cells") 1)) 0) (ceL a (some (.list (cs.map V.int), true)) (some (.int p, false)) (some (.int x, false))) = some (.next, ceL a (some (.list ((cs.set (p.fmod 6).toNat (y + x.fmod 1000000)).map V.int), true)) (some (.int p, false)) (some (.int x, false))) := by
    show (Ev.at ft (n + 29)).exec (scOf "_law_cells") (.AugAssign (.Subscript (.Name _ _) (.BinOp _ .Mod _ _) _) .Add (.BinOp _ .Mod _ _) _) _ = _
    rw [x_augs _ _ _ _ _ _ _ _ _ ce_k1 (ce_g1 ..)]
    simp only [pk_Constant, pk_BinOp, v_int, v_bin, Option.map_some, Option.bind_some, ce_g2, ce_g3, ce_q1, ce_p2, ce_p3, mod_ok (show (6 : Int) ≠ 0 by decide), mod_ok (show (1000000 : Int) ≠ 0 by decide), hi, hk, if_true, List.map_set]
  rw [lap_eq, show target (scOf "_law_cells") (forT (stAt (bdOf "_law_cells") 1)) (.tup [.int p, .int x]) (ceL a (some (.list (cs.map V.int), true)) c d) = some (ceL a (some (.list (cs.map V.int), true)) (some (.int p, false)) (some (.int x, false))) from rfl, Option.bind_some, ls1 (l := forB (stAt (bdOf "_law_cells") 1)) rfl, execs_next (h), execs_nil]
theorem ce_laps {n : Nat} (a : O) (hn : 30 ≤ n) : ∀ (xs : List Int) (j : Int) (cs : List Int) (B : Int) (c d : O), cs.length = 6 → (∀ y ∈ cs, 0 ≤ y ∧ y ≤ B) → ∃ (cs' : List Int) (c' d' : O), cs'.length = 6 ∧ (∀ y ∈ cs', 0 ≤ y ∧ y ≤ B + 1000000 * xs.length) ∧
    forL (lapAt n "_law_cells" 1) (enumFrom j (xs.map V.int)) (ceL a (some (.list (cs.map V.int), true)) c d) = some (.next, ceL a (some (.list (cs'.map V.int), true)) c' d')
  | [], j, cs, B, c, d, h1, h2 => ⟨cs, c, d, h1, by simpa using h2, rfl⟩
  | x :: xs, j, cs, B, c, d, h1, h2 => by
    have m0 : 0 ≤ j.fmod 6 := Int.fmod_nonneg_of_pos j (by decide)
    have m1 : j.fmod 6 < 6 := Int.fmod_lt_of_pos j (by decide)
    have x0 : 0 ≤ x.fmod 1000000 := Int.fmod_nonneg_of_pos x (by decide)
    have x1 : x.fmod 1000000 < 1000000 := Int.fmod_lt_of_pos x (by decide)
    have hlt : (j.fmod 6).toNat < cs.length := by omega
    have hy := h2 _ (List.getElem_mem hlt)
    obtain ⟨cs', c', d', r1, r2, r3⟩ := ce_laps a hn xs (j + 1) (cs.set (j.fmod 6).toNat (cs[(j.fmod 6).toNat] + x.fmod 1000000)) (B + 1000000) (some (.int j, false)) (some (.int x, false)) (by simpa using h1) (fun y hm => by
      rcases List.mem_or_eq_of_mem_set hm with hm | rfl
      · have := h2 y hm; omega
      · omega)
    refine ⟨cs', c', d', r1, fun y hm => ?_, ?_⟩
    · have := r2 y hm
      rw [List.length_cons]; push_cast; omega
    · rw [List.map_cons, enumFrom, forL_next (ce_lap a c d cs j x _ hn h1 (List.getElem?_eq_getElem hlt) m0 m1)]
      exact r3
theorem cells_eq {n : Nat} {ns : List Int} (hn : 40 ≤ n) (hl : ns.length ≤ 63) : ∃ cs : List Int, cs.length = 6 ∧ (∀ y ∈ cs, 0 ≤ y ∧ y ≤ 100000000) ∧ (Ev.at ft n).call (S "_law_cells") [.src (ns.map V.int)] = some (.list (cs.map V.int), true) := by
  obtain ⟨n, rfl⟩ := up hn
  obtain ⟨cs, c', d', h1, h2, h3⟩ := ce_laps (n := n + 36) (some (.src (ns.map V.int), false)) (by first | exact nle (by decide) | omega) (ns.take 60) 0 [22, 9, 5, 14, 3, 2585] 2585 none none rfl (by decide)
  refine ⟨cs, h1, fun y hy => ?_, ?_⟩
  · have := h2 y hy
    have hh : (ns.take 60).length ≤ 60 := by rw [List.length_take]; omega
    omega
  · rw [call_at (g := "_law_cells") rfl rfl, ls3 (l := bdOf "_law_cells") rfl, ce_start, execs_cons, ce_0, thn_next, execs_cons, exec_for (rfl : stAt (bdOf "_law_cells") 1 = .For _ _ _ [] _) rfl, ce_iter, Option.bind_some]
    · rw [show lapOf (Ev.at ft (n + 36)) (scOf "_law_cells") (forT (stAt (bdOf "_law_cells") 1)) (forB (stAt (bdOf "_law_cells") 1)) = lapAt (n + 36) "_law_cells" 1 from rfl]
      dsimp only
      rw [← List.map_take, h3]
      rw [thn_next, ce_end, retOf_ret]
      all_goals omega
    all_goals first | omega | (rw [List.length_map]; omega)
end Mine
end
/-! Pu7 -/
section
set_option maxRecDepth 100000
set_option linter.unusedVariables false
namespace Mine
open PySem
/-! _law_columns -/
noncomputable def coL (a0 a1 : O) : Loc := [(Str.ofString "number", a0), (Str.ofString "order", a1)]
section
variable (a0 a1 p : O)
end
theorem co_u1 (a0 a1 : O) (v : V) (b : Bool) : putN (scOf "_law_columns") (Str.ofString "order") v b (coL a0 a1) = some (coL a0 (some (v, false))) := rfl
theorem co_start (x : V) : fLoc (fdAt "_law_columns") [x] = coL (some (x, false)) none := rfl
noncomputable def ordV (a b c : Int) : V := .tup [.int a, .int b, .int c]
noncomputable def ordsV : List V := [ordV 0 1 2, ordV 0 2 1, ordV 1 0 2, ordV 1 2 0, ordV 2 0 1, ordV 2 1 0]
theorem co_0 {n : Nat} (k : Int) (b : O) (v : V) (hn : 20 ≤ n) (h : itemV (.list ordsV) (.int (k.fmod 6)) = some v) : (Ev.at ft n).exec (scOf "_law_columns") (stAt (bdOf "_law_columns") 0) (coL (some (.int k, false)) b) = some (.next, coL (some (.int k, false)) (some (v, false))) := by
  obtain ⟨n, rfl⟩ := up hn
  have e : (Ev.at ft (n + 20)).exec (scOf "_law_columns") (stAt (bdOf "_law_columns") 0) (coL (some (.int k, false)) b) = (((itemV (.list ordsV) (.int (k.fmod 6))).bind fun r => some (r, false, coL (some (.int k, false)) b))).bind fun t => (putN (scOf "_law_columns") (Str.ofString "order") t.1 t.2.1 t.2.2).bind fun l => some (.next, l) := rfl
  rw [e, h]; simp only [Option.bind_some, co_u1]
noncomputable def wt (k : Int) (p : Nat) : Int := 1 - 2 * ((k.fdiv 6).fdiv (2 ^ p)).fmod 2
theorem co_1 {n : Nat} (k a b c : Int) (hn : 30 ≤ n) : (Ev.at ft n).execs (scOf "_law_columns") [stAt (bdOf "_law_columns") 1] (coL (some (.int k, false)) (some (ordV a b c, false))) = some (.ret (.list [.tup [.int a, .int (wt k 0)], .tup [.int b, .int (wt k 1)], .tup [.int c, .int (wt k 2)]]) false, coL (some (.int k, false)) (some (ordV a b c, false))) := by
  obtain ⟨n, rfl⟩ := up hn
  rfl
theorem wt_or (k : Int) (p : Nat) : wt k p = 1 ∨ wt k p = -1 := by
  have h0 := Int.fmod_nonneg_of_pos ((k.fdiv 6).fdiv (2 ^ p)) (show (0 : Int) < 2 by decide)
  have h1 := Int.fmod_lt_of_pos ((k.fdiv 6).fdiv (2 ^ p)) (show (0 : Int) < 2 by decide)
  unfold wt
  omega
/-- the orders of the columns -/
noncomputable def ordR : List (Fin 3 × Fin 3 × Fin 3) := [(0, 1, 2), (0, 2, 1), (1, 0, 2), (1, 2, 0), (2, 0, 1), (2, 1, 0)]
noncomputable def signs : List (Int × Int × Int) := [(1, 1, 1), (1, 1, -1), (1, -1, 1), (1, -1, -1), (-1, 1, 1), (-1, 1, -1), (-1, -1, 1), (-1, -1, -1)]
noncomputable def mkC (o : Fin 3 × Fin 3 × Fin 3) (w : Int × Int × Int) : List (Fin 3 × Int) := [(o.1, w.1), (o.2.1, w.2.1), (o.2.2, w.2.2)]
noncomputable def allCols : List (List (Fin 3 × Int)) := ordR.flatMap fun o => signs.map (mkC o)
theorem columns_eq (k : Int) : ∃ cols ∈ allCols, ∀ n, 40 ≤ n → (Ev.at ft n).call (Str.ofString "_law_columns") [.int k] = some (.list (colV cols), false) := by
  have m0 : 0 ≤ k.fmod 6 := Int.fmod_nonneg_of_pos k (by decide)
  have m1 : k.fmod 6 < 6 := Int.fmod_lt_of_pos k (by decide)
  have key : ∀ (o : Fin 3 × Fin 3 × Fin 3), o ∈ ordR → itemV (.list ordsV) (.int (k.fmod 6)) = some (ordV o.1.val o.2.1.val o.2.2.val) → ∃ cols ∈ allCols, ∀ n, 40 ≤ n → (Ev.at ft n).call (Str.ofString "_law_columns") [.int k] = some (.list (colV cols), false) := by
    intro o ho h
    have hw : (wt k 0, wt k 1, wt k 2) ∈ signs := by
      rcases wt_or k 0 with h0 | h0 <;> rcases wt_or k 1 with h1 | h1 <;> rcases wt_or k 2 with h2 | h2 <;> rw [h0, h1, h2] <;> decide
    refine ⟨mkC o (wt k 0, wt k 1, wt k 2), List.mem_flatMap.mpr ⟨o, ho, List.mem_map.mpr ⟨_, hw, rfl⟩⟩, fun n hn => ?_⟩
    obtain ⟨n, rfl⟩ := up hn
    show (Ev.at ft (n + 40)).call (S "_law_columns") _ = _
    rw [call_at (g := "_law_columns") rfl rfl, ls2 (l := bdOf "_law_columns") rfl, co_start, execs_next (co_0 k none _ (by first | exact nle (by decide) | omega) h), co_1 _ _ _ _ (by first | exact nle (by decide) | omega), retOf_ret]
    rfl
  have hc : k.fmod 6 = 0 ∨ k.fmod 6 = 1 ∨ k.fmod 6 = 2 ∨ k.fmod 6 = 3 ∨ k.fmod 6 = 4 ∨ k.fmod 6 = 5 := by omega
  rcases hc with h | h | h | h | h | h
  · exact key (0, 1, 2) (by decide) (by rw [h]; rfl)
  · exact key (0, 2, 1) (by decide) (by rw [h]; rfl)
  · exact key (1, 0, 2) (by decide) (by rw [h]; rfl)
  · exact key (1, 2, 0) (by decide) (by rw [h]; rfl)
  · exact key (2, 0, 1) (by decide) (by rw [h]; rfl)
  · exact key (2, 1, 0) (by decide) (by rw [h]; rfl)
end Mine
end
/-! Pu8 -/
section
set_option maxRecDepth 100000
set_option linter.unusedVariables false
namespace Mine
open PySem
theorem x_tupl (n : Nat) (sc : Scope) (loc : Loc) (ts es : List Expr) (k1 k2 : Nat) (p1 p2 p : Pos) (h : (ts.length == es.length && (ts.map nameOf).all Option.isSome && decide ((ts.filterMap nameOf).Nodup) && decide (es.length ≤ 100) && !es.all (constantsAlone 8)) = true) :
    (Ev.at ft (n + 1)).exec sc (.Assign [.Tuple ts k1 p1] (.Tuple es k2 p2) p) loc = (evos (Ev.at ft n) sc es loc).bind fun t => (putNs sc ts t.1 t.2).bind fun l => some (.next, l) := by
  rw [at_exec]
  unfold execStep
  dsimp only
  rw [if_pos h]
  rfl
theorem v_meth (n : Nat) (sc : Scope) (loc : Loc) (x : Str) (p ap q : Pos) (args : List Expr) (h1 : ((ap.endLine == q.line) == false) = false) (h2 : (!args.isEmpty && decide (args.length < 20)) = true) :
    (Ev.at ft (n + 1)).ev sc (.Call (.Attribute (.Name x p) (Str.ofString "compare") ap) args [] q) loc = (val (Ev.at ft n) sc (.Name x p) loc).bind fun o => (vals (Ev.at ft n) sc args o.2).bind fun vs => match o.1 with
      | .inst _ => ((Ev.at ft n).call (Str.ofString "compare") (o.1 :: vs.1)).bind fun u => some (u.1, u.2, vs.2)
      | _ => none := by
  show callV (Ev.at ft n) ft sc (.Attribute (.Name x p) (Str.ofString "compare") ap) args q loc = _
  unfold callV
  dsimp only
  have h3 : (Str.ofString "compare" == Str.ofString "compare" && !args.isEmpty && decide (args.length < 20)) = true := by rw [beq_self_eq_true, Bool.true_and]; exact h2
  rw [h1, if_neg (by decide), if_neg (by decide), if_pos h3]
  rfl
/-! _law_lead -/
noncomputable def leL (a0 a1 a2 a3 a4 a5 a6 a7 a8 a9 a10 : O) : Loc := [(Str.ofString "keys", a0), (Str.ofString "columns", a1), (Str.ofString "judge", a2), (Str.ofString "lead", a3), (Str.ofString "best", a4), (Str.ofString "key", a5), (Str.ofString "rank", a6), (Str.ofString "pair", a7), (Str.ofString "told", a8), (Str.ofString "back", a9), (Str.ofString "due", a10)]
section
variable (a0 a1 a2 a3 a4 a5 a6 a7 a8 a9 a10 p : O)
theorem le_g0 : getL (leL a0 a1 a2 a3 a4 a5 a6 a7 a8 a9 a10) (Str.ofString "keys") = a0 := by cases a0 <;> rfl
theorem le_g1 : getL (leL a0 a1 a2 a3 a4 a5 a6 a7 a8 a9 a10) (Str.ofString "columns") = a1 := by cases a1 <;> rfl
theorem le_s1 : setL (leL a0 a1 a2 a3 a4 a5 a6 a7 a8 a9 a10) (Str.ofString "columns") p = leL a0 p a2 a3 a4 a5 a6 a7 a8 a9 a10 := rfl
theorem le_g2 : getL (leL a0 a1 a2 a3 a4 a5 a6 a7 a8 a9 a10) (Str.ofString "judge") = a2 := by cases a2 <;> rfl
theorem le_s2 : setL (leL a0 a1 a2 a3 a4 a5 a6 a7 a8 a9 a10) (Str.ofString "judge") p = leL a0 a1 p a3 a4 a5 a6 a7 a8 a9 a10 := rfl
theorem le_g5 : getL (leL a0 a1 a2 a3 a4 a5 a6 a7 a8 a9 a10) (Str.ofString "key") = a5 := by cases a5 <;> rfl
theorem le_s5 : setL (leL a0 a1 a2 a3 a4 a5 a6 a7 a8 a9 a10) (Str.ofString "key") p = leL a0 a1 a2 a3 a4 p a6 a7 a8 a9 a10 := rfl
theorem le_g7 : getL (leL a0 a1 a2 a3 a4 a5 a6 a7 a8 a9 a10) (Str.ofString "pair") = a7 := by cases a7 <;> rfl
theorem le_k0 : kindAt (scOf "_law_lead") (Str.ofString "keys") = some .local := rfl
theorem le_k1 : kindAt (scOf "_law_lead") (Str.ofString "columns") = some .local := rfl
theorem le_k2 : kindAt (scOf "_law_lead") (Str.ofString "judge") = some .local := rfl
theorem le_k5 : kindAt (scOf "_law_lead") (Str.ofString "key") = some .local := rfl
theorem le_k7 : kindAt (scOf "_law_lead") (Str.ofString "pair") = some .local := rfl
end
theorem le_p0 (R : Ev) (loc : Loc) (p : Pos) : pk R (scOf "_law_lead") (.Name (Str.ofString "keys") p) loc = (getL loc (Str.ofString "keys")).map fun q => (q.1, loc) := pk_nm _ _ _ _ _ (by rw [le_k0]; rfl)
theorem le_v1 (R : Ev) (loc : Loc) (p : Pos) : val R (scOf "_law_lead") (.Name (Str.ofString "columns") p) loc = (getL loc (Str.ofString "columns")).map fun q => (q.1, if q.2 = true then setL loc (Str.ofString "columns") (some (q.1, false)) else loc) := val_nm _ _ _ _ _ (by rw [le_k1]; rfl)
theorem le_v2 (R : Ev) (loc : Loc) (p : Pos) : val R (scOf "_law_lead") (.Name (Str.ofString "judge") p) loc = (getL loc (Str.ofString "judge")).map fun q => (q.1, if q.2 = true then setL loc (Str.ofString "judge") (some (q.1, false)) else loc) := val_nm _ _ _ _ _ (by rw [le_k2]; rfl)
theorem le_u3 (a0 a1 a2 a3 a4 a5 a6 a7 a8 a9 a10 : O) (v : V) (b : Bool) : putN (scOf "_law_lead") (Str.ofString "lead") v b (leL a0 a1 a2 a3 a4 a5 a6 a7 a8 a9 a10) = some (leL a0 a1 a2 (some (v, b)) a4 a5 a6 a7 a8 a9 a10) := rfl
theorem le_u4 (a0 a1 a2 a3 a4 a5 a6 a7 a8 a9 a10 : O) (v : V) (b : Bool) : putN (scOf "_law_lead") (Str.ofString "best") v b (leL a0 a1 a2 a3 a4 a5 a6 a7 a8 a9 a10) = some (leL a0 a1 a2 a3 (some (v, b)) a5 a6 a7 a8 a9 a10) := rfl
theorem le_v5 (R : Ev) (loc : Loc) (p : Pos) : val R (scOf "_law_lead") (.Name (Str.ofString "key") p) loc = (getL loc (Str.ofString "key")).map fun q => (q.1, if q.2 = true then setL loc (Str.ofString "key") (some (q.1, false)) else loc) := val_nm _ _ _ _ _ (by rw [le_k5]; rfl)
theorem le_u6 (a0 a1 a2 a3 a4 a5 a6 a7 a8 a9 a10 : O) (v : V) (b : Bool) : putN (scOf "_law_lead") (Str.ofString "rank") v b (leL a0 a1 a2 a3 a4 a5 a6 a7 a8 a9 a10) = some (leL a0 a1 a2 a3 a4 a5 (some (v, b)) a7 a8 a9 a10) := rfl
theorem le_p7 (R : Ev) (loc : Loc) (p : Pos) : pk R (scOf "_law_lead") (.Name (Str.ofString "pair") p) loc = (getL loc (Str.ofString "pair")).map fun q => (q.1, loc) := pk_nm _ _ _ _ _ (by rw [le_k7]; rfl)
theorem le_u7 (a0 a1 a2 a3 a4 a5 a6 a7 a8 a9 a10 : O) (v : V) (b : Bool) : putN (scOf "_law_lead") (Str.ofString "pair") v b (leL a0 a1 a2 a3 a4 a5 a6 a7 a8 a9 a10) = some (leL a0 a1 a2 a3 a4 a5 a6 (some (v, b)) a8 a9 a10) := rfl
theorem le_u8 (a0 a1 a2 a3 a4 a5 a6 a7 a8 a9 a10 : O) (v : V) (b : Bool) : putN (scOf "_law_lead") (Str.ofString "told") v b (leL a0 a1 a2 a3 a4 a5 a6 a7 a8 a9 a10) = some (leL a0 a1 a2 a3 a4 a5 a6 a7 (some (v, b)) a9 a10) := rfl
theorem le_u9 (a0 a1 a2 a3 a4 a5 a6 a7 a8 a9 a10 : O) (v : V) (b : Bool) : putN (scOf "_law_lead") (Str.ofString "back") v b (leL a0 a1 a2 a3 a4 a5 a6 a7 a8 a9 a10) = some (leL a0 a1 a2 a3 a4 a5 a6 a7 a8 (some (v, b)) a10) := rfl
theorem le_c__law_rank (n : Nat) (loc : Loc) (p q : Pos) (e : Expr) (r : List Expr) : (Ev.at ft (n + 1)).ev (scOf "_law_lead") (.Call (.Name (Str.ofString "_law_rank") p) (e :: r) [] q) loc = (vals (Ev.at ft n) (scOf "_law_lead") (e :: r) loc).bind fun t => ((Ev.at ft n).call (Str.ofString "_law_rank") t.1).bind fun u => some (u.1, u.2, t.2) := v_call _ _ _ _ _ _ _ rfl rfl rfl rfl rfl
theorem le_start (x y : V) : fLoc (fdAt "_law_lead") [x, y] = leL (some (x, false)) (some (y, false)) none none none none none none none none none := rfl
theorem le_0 {n : Nat} (a : O) (cv : V) (c d e f g h i j k : O) (hn : 20 ≤ n) : (Ev.at ft n).exec (scOf "_law_lead") (stAt (bdOf "_law_lead") 0) (leL a (some (cv, false)) c d e f g h i j k) = some (.next, leL a (some (cv, false)) (some (.inst cv, false)) d e f g h i j k) := by
  obtain ⟨n, rfl⟩ := up hn
  rfl
theorem le_1 {n : Nat} (k0 cv : V) (ks : List V) (r : Int) (c d e f g h i j k : O) (hn : 20 ≤ n) (hr : ∀ m, n ≤ m + 20 → (Ev.at ft m).call (Str.ofString "_law_rank") [k0, cv] = some (.int r, false)) : (Ev.at ft n).exec (scOf "_law_lead") (stAt (bdOf "_law_lead") 1) (leL (some (.list (k0 :: ks), false)) (some (cv, false)) c d e f g h i j k) = some (.next, leL (some (.list (k0 :: ks), false)) (some (cv, false)) c (some (k0, false)) (some (.int r, false)) f g h i j k) := by
  obtain ⟨n, rfl⟩ := up hn
  have hi : itemV (.list (k0 :: ks)) (.int 0) = some k0 := rfl
  have hr := hr (n + 18) (by first | exact nle (by decide) | omega)
  show (Ev.at ft (n + 20)).exec (scOf "_law_lead") (.Assign [.Tuple [.Name _ _, .Name _ _] _ _] (.Tuple [.Subscript (.Name _ _) _ _, .Call _ [.Subscript (.Name _ _) _ _, .Name _ _] [] _] _ _) _) _ = _
  rw [x_tupl]
  · simp only [pk_Constant, val_Subscript, vi_ct, v_int, Option.map_some, Option.bind_some, vals_nil, vals_cons, Option.bind_eq_bind, le_g0, le_g1, le_s1, le_p0, le_v1, le_u3, le_u4, le_c__law_rank, evos_nil, evos_cons, putNs_nil, putNs_put, hi, hr, Bool.false_eq_true, if_false]
  · rfl
theorem le_b0 {n : Nat} (k0 cv : V) (r : Int) (a c d e g h i j k : O) (hn : 20 ≤ n) (hr : ∀ m, n ≤ m + 20 → (Ev.at ft m).call (Str.ofString "_law_rank") [k0, cv] = some (.int r, false)) : (Ev.at ft n).exec (scOf "_law_lead") (stAt (forB (stAt (bdOf "_law_lead") 2)) 0) (leL a (some (cv, false)) c d e (some (k0, false)) g h i j k) = some (.next, leL a (some (cv, false)) c d e (some (k0, false)) (some (.int r, false)) h i j k) := by
  obtain ⟨n, rfl⟩ := up hn
  have hr := hr (n + 18) (by first | exact nle (by decide) | omega)
  show (Ev.at ft (n + 20)).exec (scOf "_law_lead") (.Assign [.Name _ _] (.Call _ [.Name _ _, .Name _ _] [] _) _) _ = _
  simp only [x_asg, Option.map_some, Option.bind_some, vals_nil, vals_cons, Option.bind_eq_bind, le_g1, le_s1, le_g5, le_s5, le_v1, le_v5, le_u6, le_c__law_rank, hr, Bool.false_eq_true, if_false]
noncomputable abbrev leX : Expr := asgV (stAt (forB (stAt (bdOf "_law_lead") 2)) 1)
noncomputable def leC (p : O × O) : Loc := [(Str.ofString ".0", p.1), (Str.ofString "number", p.2)]
theorem le_pair1 {n : Nat} (rec : List V → Loc → Option (List V × Loc)) (k : Int) (s1 s2 : V) (a : O × O) (hn : 10 ≤ n) (h1 : builtV "str" [.int (1000 + k)] = some s1) (h2 : cutV s1 (some (.int 1)) none = some s2) : lapV (Ev.at ft n) rec (lcS leX) (lcE leX) (gAt (lcG leX) 0) [] (.int k) (leC a) = some ([s2], leC (a.1, some (.int k, false))) := by
  obtain ⟨n, rfl⟩ := up hn
  unfold lapV
  rw [show target (lcS leX) (gAt (lcG leX) 0).target (.int k) (leC a) = some (leC (a.1, some (.int k, false))) from rfl, Option.bind_eq_bind, Option.bind_some]
  rw [show tests (Ev.at ft (n + 10)) (lcS leX) (gAt (lcG leX) 0).ifs (leC (a.1, some (.int k, false))) = some (true, leC (a.1, some (.int k, false))) from rfl, Option.bind_eq_bind, Option.bind_some]
  have e : emitV (Ev.at ft (n + 10)) rec (lcS leX) (lcE leX) [] (leC (a.1, some (.int k, false))) = ((((builtV "str" [.int (1000 + k)]).bind fun v => (cutV v (some (.int 1)) none).bind fun r => some (r, false, leC (a.1, some (.int k, false))))).map fun x => (x.1, x.2.2)).bind fun x => some ([x.1], x.2) := by
    show ((((((builtV "str" [.int (1000 + k)]).bind fun v => some (v, false, leC (a.1, some (.int k, false)))).map fun x => (x.1, x.2.2)).bind fun t => (cutV t.1 (some (.int 1)) none).bind fun r => some (r, false, t.2))).map fun x => (x.1, x.2.2)).bind (fun x => some ([x.1], x.2)) = _
    cases builtV "str" [.int (1000 + k)] <;> rfl
  dsimp only
  rw [if_pos rfl, e, h1, Option.bind_some, h2]
  rfl
theorem le_comp {n : Nat} (k l : Int) (s1 s2 t1 t2 : V) (a b c d e g h i j o1 : O) (hn : 20 ≤ n) (h1 : builtV "str" [.int (1000 + k)] = some s1) (h2 : cutV s1 (some (.int 1)) none = some s2) (h3 : builtV "str" [.int (1000 + l)] = some t1) (h4 : cutV t1 (some (.int 1)) none = some t2) :
    listComp (Ev.at ft n) (scOf "_law_lead") (lcE leX) (lcG leX) (lcS leX) (leL a b c (some (.int l, false)) d (some (.int k, false)) e g h i j) = some (.list [s2, t2], leL a b c (some (.int l, false)) d (some (.int k, false)) e g h i j) := by
  obtain ⟨n, rfl⟩ := up hn
  rw [listComp_eq (rfl : lcOk _ _ _ (leL a b c (some (.int l, false)) d (some (.int k, false)) e g h i j) = true)]
  refine bind_of (a := ([.int k, .int l], leL a b c (some (.int l, false)) d (some (.int k, false)) e g h i j)) rfl ?_
  refine bind_of (a := ([s2, t2], leC (none, some (.int l, false)))) ?_ rfl
  show compL (lapV (Ev.at ft (n + 20)) (compG (Ev.at ft (n + 20)) (lcS leX) (lcE leX) []) (lcS leX) (lcE leX) (gAt (lcG leX) 0) []) [.int k, .int l] (leC (none, none)) = _
  simp only [compL_n, compL_c, le_pair1 _ k s1 s2 _ (show 10 ≤ n + 20 by omega) h1 h2, le_pair1 _ l t1 t2 _ (show 10 ≤ n + 20 by omega) h3 h4, Option.bind_eq_bind, Option.bind_some]
  rfl
theorem le_b1 {n : Nat} (k l : Int) (s1 s2 t1 t2 : V) (a b c d e g h i j o1 : O) (hn : 30 ≤ n) (h1 : builtV "str" [.int (1000 + k)] = some s1) (h2 : cutV s1 (some (.int 1)) none = some s2) (h3 : builtV "str" [.int (1000 + l)] = some t1) (h4 : cutV t1 (some (.int 1)) none = some t2) :
    (Ev.at ft n).exec (scOf "_law_lead") (stAt (forB (stAt (bdOf "_law_lead") 2)) 1) (leL a b c (some (.int l, false)) d (some (.int k, false)) e g h i j) = some (.next, leL a b c (some (.int l, false)) d (some (.int k, false)) e (some (.list [s2, t2], false)) h i j) := by
  obtain ⟨n, rfl⟩ := up hn
  have hc := le_comp (n := n + 28) k l s1 s2 t1 t2 a b c d e g h i j o1 (by first | exact nle (by decide) | omega) h1 h2 h3 h4
  have e1 : (Ev.at ft (n + 29)).ev (scOf "_law_lead") leX (leL a b c (some (.int l, false)) d (some (.int k, false)) e g h i j) = ((listComp (Ev.at ft (n + 28)) (scOf "_law_lead") (lcE leX) (lcG leX) (lcS leX) (leL a b c (some (.int l, false)) d (some (.int k, false)) e g h i j)).bind fun t => some (t.1, false, t.2)) := rfl
  show (Ev.at ft (n + 30)).exec (scOf "_law_lead") (.Assign [.Name _ _] leX _) _ = _
  rw [x_asg, e1, hc]
  simp only [Option.bind_some, le_u7]
theorem le_b2 {n : Nat} (cv s t : V) (d1 d2 : Int) (a b f1 f2 f3 f4 g h i : O) (hn : 30 ≤ n) (h1 : ∀ m, n ≤ m + 20 → (Ev.at ft m).call (Str.ofString "compare") [.inst cv, s, t] = some (.int d1, false)) (h2 : ∀ m, n ≤ m + 20 → (Ev.at ft m).call (Str.ofString "compare") [.inst cv, t, s] = some (.int d2, false)) :
    (Ev.at ft n).exec (scOf "_law_lead") (stAt (forB (stAt (bdOf "_law_lead") 2)) 2) (leL a b (some (.inst cv, false)) f1 f2 f3 f4 (some (.list [s, t], false)) g h i) = some (.next, leL a b (some (.inst cv, false)) f1 f2 f3 f4 (some (.list [s, t], false)) (some (.int d1, false)) (some (.int d2, false)) i) := by
  obtain ⟨n, rfl⟩ := up hn
  have i0 : itemV (.list [s, t]) (.int 0) = some s := rfl
  have i1 : itemV (.list [s, t]) (.int 1) = some t := rfl
  have h1 := h1 (n + 28) (by first | exact nle (by decide) | omega)
  have h2 := h2 (n + 28) (by first | exact nle (by decide) | omega)
  show (Ev.at ft (n + 30)).exec (scOf "_law_lead") (.Assign [.Tuple [.Name _ _, .Name _ _] _ _] (.Tuple [.Call (.Attribute (.Name _ _) _ _) [.Subscript (.Name _ _) _ _, .Subscript (.Name _ _) _ _] [] _, .Call (.Attribute (.Name _ _) _ _) [.Subscript (.Name _ _) _ _, .Subscript (.Name _ _) _ _] [] _] _ _) _) _ = _
  rw [x_tupl]
  · unfold evos evos evos
    rw [v_meth _ _ _ _ _ _ _ _ rfl rfl]
    simp only [pk_Constant, val_Subscript, vi_ct, v_int, Option.map_some, Option.bind_some, vals_nil, vals_cons, Option.bind_eq_bind, le_g2, le_s2, le_g7, le_v2, le_p7, i0, i1, h1, Bool.false_eq_true, if_false]
    rw [v_meth _ _ _ _ _ _ _ _ rfl rfl]
    simp only [pk_Constant, val_Subscript, vi_ct, v_int, Option.map_some, Option.bind_some, vals_nil, vals_cons, Option.bind_eq_bind, le_g2, le_s2, le_g7, le_v2, le_p7, le_u8, le_u9, i0, i1, h2, Bool.false_eq_true, if_false, putNs_nil, putNs_put]
  · rfl
theorem le_b3 {n : Nat} (b r : Int) (a c d e f g h i j : O) (hn : 30 ≤ n) : (Ev.at ft n).exec (scOf "_law_lead") (stAt (forB (stAt (bdOf "_law_lead") 2)) 3) (leL a c d e (some (.int b, false)) f (some (.int r, false)) g h i j) = some (.next, leL a c d e (some (.int b, false)) f (some (.int r, false)) g h i (some (.int ((if decide (b < r) = true then 1 else 0) - (if decide (r < b) = true then 1 else 0)), false))) := by
  obtain ⟨n, rfl⟩ := up hn
  rfl
theorem le_b4 {n : Nat} (d : Int) (a b c e f g h i : O) (hn : 30 ≤ n) : (Ev.at ft n).exec (scOf "_law_lead") (stAt (forB (stAt (bdOf "_law_lead") 2)) 4) (leL a b c e f g h i (some (.int d, false)) (some (.int (-d), false)) (some (.int d, false))) = some (.next, leL a b c e f g h i (some (.int d, false)) (some (.int (-d), false)) (some (.int d, false))) := by
  obtain ⟨n, rfl⟩ := up hn
  rw [exec_if_f (rfl : stAt (forB (stAt (bdOf "_law_lead") 2)) 4 = .If _ _ _ _) (l := leL a b c e f g h i (some (.int d, false)) (some (.int (-d), false)) (some (.int d, false)))]
  · rfl
  · have e1 : (Ev.at ft (n + 29)).tst (scOf "_law_lead") (ifT (stAt (forB (stAt (bdOf "_law_lead") 2)) 4)) (leL a b c e f g h i (some (.int d, false)) (some (.int (-d), false)) (some (.int d, false))) = if (!decide ([d, -d] = [d, -d])) = true then some (true, leL a b c e f g h i (some (.int d, false)) (some (.int (-d), false)) (some (.int d, false))) else some (false, leL a b c e f g h i (some (.int d, false)) (some (.int (-d), false)) (some (.int d, false))) := rfl
    rw [e1, if_neg (by simp)]
theorem le_b5t {n : Nat} (d : Int) (a b c e f g h i j k r : O) (kv rv : V) (hd : d < 0) (hn : 30 ≤ n) : (Ev.at ft n).exec (scOf "_law_lead") (stAt (forB (stAt (bdOf "_law_lead") 2)) 5) (leL a b c e f (some (kv, false)) (some (rv, false)) g (some (.int d, false)) i j) = some (.next, leL a b c (some (kv, false)) (some (rv, false)) (some (kv, false)) (some (rv, false)) g (some (.int d, false)) i j) := by
  obtain ⟨n, rfl⟩ := up hn
  rw [exec_if_t (rfl : stAt (forB (stAt (bdOf "_law_lead") 2)) 5 = .If _ _ _ _) (l := leL a b c e f (some (kv, false)) (some (rv, false)) g (some (.int d, false)) i j)]
  · rfl
  · rw [show (Ev.at ft (n + 29)).tst (scOf "_law_lead") (ifT (stAt (forB (stAt (bdOf "_law_lead") 2)) 5)) (leL a b c e f (some (kv, false)) (some (rv, false)) g (some (.int d, false)) i j) = some (decide (d < 0), leL a b c e f (some (kv, false)) (some (rv, false)) g (some (.int d, false)) i j) from rfl, decide_eq_true hd]
theorem le_b5f {n : Nat} (d : Int) (a b c e f g h i j k r : O) (kv rv : V) (hd : ¬ d < 0) (hn : 30 ≤ n) : (Ev.at ft n).exec (scOf "_law_lead") (stAt (forB (stAt (bdOf "_law_lead") 2)) 5) (leL a b c e f (some (kv, false)) (some (rv, false)) g (some (.int d, false)) i j) = some (.next, leL a b c e f (some (kv, false)) (some (rv, false)) g (some (.int d, false)) i j) := by
  obtain ⟨n, rfl⟩ := up hn
  rw [exec_if_f (rfl : stAt (forB (stAt (bdOf "_law_lead") 2)) 5 = .If _ _ _ _) (l := leL a b c e f (some (kv, false)) (some (rv, false)) g (some (.int d, false)) i j)]
  · rfl
  · rw [show (Ev.at ft (n + 29)).tst (scOf "_law_lead") (ifT (stAt (forB (stAt (bdOf "_law_lead") 2)) 5)) (leL a b c e f (some (kv, false)) (some (rv, false)) g (some (.int d, false)) i j) = some (decide (d < 0), leL a b c e f (some (kv, false)) (some (rv, false)) g (some (.int d, false)) i j) from rfl, decide_eq_false hd]
theorem le_end {n : Nat} (a b c f1 f2 f3 f4 f5 f6 f7 : O) (v : V) (hn : 30 ≤ n) : (Ev.at ft n).execs (scOf "_law_lead") [stAt (bdOf "_law_lead") 3] (leL a b c (some (v, false)) f1 f2 f3 f4 f5 f6 f7) = some (.ret v false, leL a b c (some (v, false)) f1 f2 f3 f4 f5 f6 f7) := by
  obtain ⟨n, rfl⟩ := up hn
  rfl
end Mine
end
/-! Pu9 -/
section
set_option maxRecDepth 100000
set_option linter.unusedVariables false
namespace Mine
open PySem
noncomputable def dg (k : Int) (i : Fin 3) : Nat := 48 + (fig k i).toNat
noncomputable def k5 : List Int := [0, 1, 2, 3, 4]
noncomputable def keysAll : List Int := k5.flatMap fun a => k5.flatMap fun b => k5.map fun c => 100 * a + 10 * b + c
noncomputable def strOk (k : Int) : Bool := decide (0 ≤ 1000 + k) && decide (1000 + k < 1000000000) && (decide (1 ≤ (Str.ofString (toString (1000 + k))).cps.size) && small (Str.ofString (toString (1000 + k))).cps.size) && decide ((Str.ofString (toString (1000 + k))).cps.toList.drop 1 = [dg k 0, dg k 1, dg k 2])
theorem keys_str : ∀ k ∈ keysAll, strOk k = true := by decide +kernel
theorem keys_fig : ∀ k ∈ keysAll, ∀ i : Fin 3, 0 ≤ fig k i ∧ fig k i < 10 := by decide +kernel
theorem key_str {k : Int} (hk : k ∈ keysAll) : ∃ s1, builtV "str" [.int (1000 + k)] = some s1 ∧ cutV s1 (some (.int 1)) none = some (.str (st3 (dg k))) := by
  have h := keys_str k hk
  unfold strOk at h
  simp only [Bool.and_eq_true] at h
  obtain ⟨⟨⟨h1, h2⟩, h3⟩, h4⟩ := h
  refine ⟨.str (Str.ofString (toString (1000 + k))), ?_, ?_⟩
  · show (if (decide (0 ≤ 1000 + k) && decide (1000 + k < 1000000000)) = true then _ else _) = _
    rw [if_pos (by rw [h1, h2]; rfl)]
  · show (if (decide (1 ≤ (Str.ofString (toString (1000 + k))).cps.size) && small (Str.ofString (toString (1000 + k))).cps.size) = true then some (V.str ⟨((Str.ofString (toString (1000 + k))).cps.toList.drop 1).toArray⟩) else none) = _
    rw [if_pos (by rw [h3.1, h3.2]; rfl), of_decide_eq_true h4]
    rfl
theorem sg_of {x a b : Int} (h : (a < b ∧ x = -1) ∨ (b < a ∧ x = 1) ∨ (a = b ∧ x = 0)) : x = (if decide (b < a) = true then 1 else 0) - (if decide (a < b) = true then 1 else 0) := by
  rcases h with ⟨h, rfl⟩ | ⟨h, rfl⟩ | ⟨h, rfl⟩
  · rw [if_neg (by simp; omega), if_pos (by simpa using h)]; decide
  · rw [if_pos (by simpa using h), if_neg (by simp; omega)]; decide
  · rw [if_neg (by simp; omega), if_neg (by simp; omega)]; decide
theorem cols_shape : ∀ cols ∈ allCols, ∃ i j m w0 w1 w2, cols = [(i, w0), (j, w1), (m, w2)] ∧ (w0 = 1 ∨ w0 = -1) ∧ (w1 = 1 ∨ w1 = -1) ∧ (w2 = 1 ∨ w2 = -1) := by
  intro cols h
  obtain ⟨o, ho, hw⟩ := List.mem_flatMap.mp h
  obtain ⟨w, hw2, rfl⟩ := List.mem_map.mp hw
  have : ∀ w ∈ signs, (w.1 = 1 ∨ w.1 = -1) ∧ (w.2.1 = 1 ∨ w.2.1 = -1) ∧ (w.2.2 = 1 ∨ w.2.2 = -1) := by decide
  exact ⟨_, _, _, _, _, _, rfl, this w hw2⟩
noncomputable def rkOf (cols : List (Fin 3 × Int)) (k : Int) : Int := rankR cols (fig k) 0
theorem cols_w {cols : List (Fin 3 × Int)} (hc : cols ∈ allCols) : cols.length = 3 ∧ ∀ p ∈ cols, p.2 = 1 ∨ p.2 = -1 := by
  obtain ⟨i, j, m, w0, w1, w2, rfl, h0, h1, h2⟩ := cols_shape cols hc
  refine ⟨rfl, ?_⟩
  intro p hp
  simp only [List.mem_cons, List.not_mem_nil, or_false] at hp
  rcases hp with rfl | rfl | rfl <;> assumption
theorem rank_lt {s t : Fin 3 → Int} (hs : ∀ i, 0 ≤ s i ∧ s i < 10) (ht : ∀ i, 0 ≤ t i ∧ t i < 10) : ∀ (cols : List (Fin 3 × Int)) (a b : Int), (∀ p ∈ cols, p.2 = 1 ∨ p.2 = -1) → a < b → rankR cols s a < rankR cols t b
  | [], a, b, _, h => h
  | (i, w) :: r, a, b, hw, h => by
    refine rank_lt hs ht r _ _ (fun p hp => hw p (.tail _ hp)) ?_
    have h1 := hs i
    have h2 := ht i
    have hw' : w = 1 ∨ w = -1 := hw (i, w) (.head _)
    rcases hw' with rfl | rfl <;> omega
theorem cmp_sgn {s t : Fin 3 → Int} (hs : ∀ i, 0 ≤ s i ∧ s i < 10) (ht : ∀ i, 0 ≤ t i ∧ t i < 10) : ∀ (cols : List (Fin 3 × Int)) (a : Int), (∀ p ∈ cols, p.2 = 1 ∨ p.2 = -1) → ((rankR cols s a < rankR cols t a ∧ cmpR cols (fun i => 48 + (s i).toNat) (fun i => 48 + (t i).toNat) = -1) ∨ (rankR cols t a < rankR cols s a ∧ cmpR cols (fun i => 48 + (s i).toNat) (fun i => 48 + (t i).toNat) = 1) ∨ (rankR cols s a = rankR cols t a ∧ cmpR cols (fun i => 48 + (s i).toNat) (fun i => 48 + (t i).toNat) = 0))
  | [], a, _ => .inr (.inr ⟨rfl, rfl⟩)
  | (i, w) :: r, a, hw => by
    have h1 := hs i
    have h2 := ht i
    have hr : ∀ p ∈ r, p.2 = 1 ∨ p.2 = -1 := fun p hp => hw p (.tail _ hp)
    have hw' : w = 1 ∨ w = -1 := hw (i, w) (.head _)
    rw [cmpR_c, rankR_c, rankR_c]
    by_cases c1 : s i < t i
    · rw [if_pos (by first | exact nle (by decide) | omega)]
      rcases hw' with rfl | rfl
      · exact .inl ⟨rank_lt hs ht r _ _ hr (by first | exact nle (by decide) | omega), rfl⟩
      · exact .inr (.inl ⟨rank_lt ht hs r _ _ hr (by first | exact nle (by decide) | omega), rfl⟩)
    · rw [if_neg (by first | exact nle (by decide) | omega)]
      by_cases c2 : t i < s i
      · rw [if_pos (by first | exact nle (by decide) | omega)]
        rcases hw' with rfl | rfl
        · exact .inr (.inl ⟨rank_lt ht hs r _ _ hr (by first | exact nle (by decide) | omega), rfl⟩)
        · exact .inl ⟨rank_lt hs ht r _ _ hr (by first | exact nle (by decide) | omega), rfl⟩
      · rw [if_neg (by first | exact nle (by decide) | omega), show s i = t i by omega]
        exact cmp_sgn hs ht r _ hr
theorem cmp_rank {cols : List (Fin 3 × Int)} {k l : Int} (hc : cols ∈ allCols) (hk : k ∈ keysAll) (hl : l ∈ keysAll) : cmpR cols (dg k) (dg l) = (if decide (rkOf cols l < rkOf cols k) = true then 1 else 0) - (if decide (rkOf cols k < rkOf cols l) = true then 1 else 0) :=
  sg_of (cmp_sgn (keys_fig k hk) (keys_fig l hl) cols 0 (cols_w hc).2)
noncomputable def ldS (cols : List (Fin 3 × Int)) (l k : Int) : Int := if rkOf cols k < rkOf cols l then k else l
/-- the frame of _law_lead between two laps -/
inductive LeS (cols : List (Fin 3 × Int)) (a : O) (l : Int) : Loc → Prop
  | mk (f g h i j o : O) : LeS cols a l (leL a (some (.list (colV cols), false)) (some (.inst (.list (colV cols)), false)) (some (.int l, false)) (some (.int (rkOf cols l), false)) f g h i j o)
theorem le_lap {n : Nat} {cols : List (Fin 3 × Int)} {k l : Int} {a : O} {L : Loc} (hL : LeS cols a l L) (hn : 60 ≤ n) (hc : cols ∈ allCols) (hk : k ∈ keysAll) (hl : l ∈ keysAll) : ∃ L', lapAt n "_law_lead" 2 (.int k) L = some (.next, L') ∧ LeS cols a (ldS cols l k) L' := by
  obtain ⟨f, g, h, i, j, o⟩ := hL
  obtain ⟨n, rfl⟩ := up hn
  obtain ⟨s1, hs1, hs2⟩ := key_str hk
  obtain ⟨t1, ht1, ht2⟩ := key_str hl
  obtain ⟨hlen, hw⟩ := cols_w hc
  have hd := cmp_rank hc hk hl
  have hd' := cmp_rank hc hl hk
  have hr : ∀ m, 25 ≤ m → (Ev.at ft m).call (Str.ofString "_law_rank") [.int k, .list (colV cols)] = some (.int (rkOf cols k), false) := fun m hm => rank_eq hm (by first | exact nle (by decide) | omega) hw
  have hc1 : ∀ m, 25 ≤ m → (Ev.at ft m).call (Str.ofString "compare") [.inst (.list (colV cols)), .str (st3 (dg k)), .str (st3 (dg l))] = some (.int (cmpR cols (dg k) (dg l)), false) := fun m hm => compare_eq (by first | exact nle (by decide) | omega) (by first | exact nle (by decide) | omega)
  have hc2 : ∀ m, 25 ≤ m → (Ev.at ft m).call (Str.ofString "compare") [.inst (.list (colV cols)), .str (st3 (dg l)), .str (st3 (dg k))] = some (.int (-cmpR cols (dg k) (dg l)), false) := fun m hm => by
    have e : cmpR cols (dg l) (dg k) = -cmpR cols (dg k) (dg l) := by rw [hd, hd']; omega
    rw [← e]; exact compare_eq (by first | exact nle (by decide) | omega) (by first | exact nle (by decide) | omega)
  have e5 : (Ev.at ft (n + 54)).exec (scOf "_law_lead") (stAt (forB (stAt (bdOf "_law_lead") 2)) 5) (leL a (some (.list (colV cols), false)) (some (.inst (.list (colV cols)), false)) (some (.int l, false)) (some (.int (rkOf cols l), false)) (some (.int k, false)) (some (.int (rkOf cols k), false)) (some (.list [.str (st3 (dg k)), .str (st3 (dg l))], false)) (some (.int (cmpR cols (dg k) (dg l)), false)) (some (.int (-cmpR cols (dg k) (dg l)), false)) (some (.int (cmpR cols (dg k) (dg l)), false))) =
      some (.next, leL a (some (.list (colV cols), false)) (some (.inst (.list (colV cols)), false)) (some (.int (ldS cols l k), false)) (some (.int (rkOf cols (ldS cols l k)), false)) (some (.int k, false)) (some (.int (rkOf cols k), false)) (some (.list [.str (st3 (dg k)), .str (st3 (dg l))], false)) (some (.int (cmpR cols (dg k) (dg l)), false)) (some (.int (-cmpR cols (dg k) (dg l)), false)) (some (.int (cmpR cols (dg k) (dg l)), false))) := by
    by_cases hlt : rkOf cols k < rkOf cols l
    · have : cmpR cols (dg k) (dg l) < 0 := by rw [hd, if_neg (by simp; omega), if_pos (by simpa using hlt)]; decide
      rw [le_b5t (h := none) (k := none) (r := none) (hd := this) (hn := by omega), ldS, if_pos hlt]
    · have : ¬ cmpR cols (dg k) (dg l) < 0 := by
        rw [hd, if_neg (c := decide (rkOf cols k < rkOf cols l) = true) (by simpa using hlt)]; split <;> omega
      rw [le_b5f (h := none) (k := none) (r := none) (hd := this) (hn := by omega), ldS, if_neg hlt]
  refine ⟨_, ?_, .mk (some (.int k, false)) (some (.int (rkOf cols k), false)) (some (.list [.str (st3 (dg k)), .str (st3 (dg l))], false)) (some (.int (cmpR cols (dg k) (dg l)), false)) (some (.int (-cmpR cols (dg k) (dg l)), false)) (some (.int (cmpR cols (dg k) (dg l)), false))⟩
  rw [lap_eq, show target (scOf "_law_lead") (forT (stAt (bdOf "_law_lead") 2)) (.int k) (leL a (some (.list (colV cols), false)) (some (.inst (.list (colV cols)), false)) (some (.int l, false)) (some (.int (rkOf cols l), false)) f g h i j o) = some (leL a (some (.list (colV cols), false)) (some (.inst (.list (colV cols)), false)) (some (.int l, false)) (some (.int (rkOf cols l), false)) (some (.int k, false)) g h i j o) from rfl, Option.bind_some, ls6 (l := forB (stAt (bdOf "_law_lead") 2)) rfl]
  rw [execs_next (le_b0 _ _ _ _ _ _ _ _ _ _ _ _ (by first | exact nle (by decide) | omega) (fun m hm => hr m (by first | exact nle (by decide) | omega))), execs_next (le_b1 k l s1 _ t1 _ _ _ _ _ _ _ _ _ _ none (by first | exact nle (by decide) | omega) hs1 hs2 ht1 ht2), execs_next (le_b2 _ _ _ (cmpR cols (dg k) (dg l)) (-cmpR cols (dg k) (dg l)) _ _ _ _ _ _ _ _ _ (by first | exact nle (by decide) | omega) (fun m hm => hc1 m (by first | exact nle (by decide) | omega)) (fun m hm => hc2 m (by first | exact nle (by decide) | omega))), execs_next (le_b3 _ _ _ _ _ _ _ _ _ _ _ (by first | exact nle (by decide) | omega)), ← hd, execs_next (le_b4 _ _ _ _ _ _ _ _ _ (by first | exact nle (by decide) | omega)), execs_next (e5), execs_nil]
theorem ldS_mem {cols : List (Fin 3 × Int)} {l k : Int} (h1 : l ∈ keysAll) (h2 : k ∈ keysAll) : ldS cols l k ∈ keysAll := by
  unfold ldS; split <;> assumption
theorem le_laps {n : Nat} {cols : List (Fin 3 × Int)} {a : O} (hn : 60 ≤ n) (hc : cols ∈ allCols) : ∀ (ks : List Int) (l : Int) (L : Loc), LeS cols a l L → (∀ k ∈ ks, k ∈ keysAll) → l ∈ keysAll → ∃ L', forL (lapAt n "_law_lead" 2) (ks.map V.int) L = some (.next, L') ∧ LeS cols a (ks.foldl (ldS cols) l) L'
  | [], l, L, hL, _, _ => ⟨L, rfl, hL⟩
  | k :: ks, l, L, hL, hm, hl => by
    have hk := hm k (.head _)
    obtain ⟨L1, e1, s1⟩ := le_lap hL hn hc hk hl
    obtain ⟨L2, e2, s2⟩ := le_laps hn hc ks (ldS cols l k) L1 s1 (fun x hx => hm x (.tail _ hx)) (ldS_mem hl hk)
    exact ⟨L2, by rw [List.map_cons, forL_next e1, e2], s2⟩
theorem le_iter {n : Nat} (vs : List V) (b c d e f g h i j k : O) (hn : 11 ≤ n) (hs : small vs.length = true) : iter (Ev.at ft n) (scOf "_law_lead") (forI (stAt (bdOf "_law_lead") 2)) (leL (some (.list vs, false)) b c d e f g h i j k) = some (vs, leL (some (.list vs, false)) b c d e f g h i j k) := by
  obtain ⟨n, rfl⟩ := up hn
  exact (show _ = (if small vs.length = true then some (vs, leL (some (.list vs, false)) b c d e f g h i j k) else none) from rfl).trans (if_pos hs)
theorem lead_eq {n : Nat} {cols : List (Fin 3 × Int)} {k0 : Int} {ks : List Int} (hn : 100 ≤ n) (hc : cols ∈ allCols) (hk : ∀ k ∈ k0 :: ks, k ∈ keysAll) (hl : ks.length ≤ 1000) : (Ev.at ft n).call (Str.ofString "_law_lead") [.list ((k0 :: ks).map V.int), .list (colV cols)] = some (.int ((k0 :: ks).foldl (ldS cols) k0), false) := by
  obtain ⟨n, rfl⟩ := up hn
  obtain ⟨hlen, hw⟩ := cols_w hc
  obtain ⟨L, e, s⟩ := le_laps (n := n + 95) (a := some (.list (.int k0 :: ks.map V.int), false)) (by first | exact nle (by decide) | omega) hc (k0 :: ks) k0 _ (.mk none none none none none none) hk (hk k0 (.head _))
  obtain ⟨f', g', h', i', j', o'⟩ := s
  show (Ev.at ft (n + 100)).call (S "_law_lead") [.list (.int k0 :: ks.map V.int), .list (colV cols)] = _
  rw [call_at (g := "_law_lead") rfl rfl, ls4 (l := bdOf "_law_lead") rfl, le_start, execs_cons, le_0, thn_next, execs_cons, le_1 (.int k0) (.list (colV cols)) (ks.map V.int) (rkOf cols k0), thn_next, execs_cons, exec_for (rfl : stAt (bdOf "_law_lead") 2 = .For _ _ _ [] _) rfl, le_iter, Option.bind_some]
  · rw [show lapOf (Ev.at ft (n + 95)) (scOf "_law_lead") (forT (stAt (bdOf "_law_lead") 2)) (forB (stAt (bdOf "_law_lead") 2)) = lapAt (n + 95) "_law_lead" 2 from rfl]
    dsimp only
    rw [List.map_cons] at e
    rw [e, thn_next, le_end, retOf_ret]
    omega
  · omega
  · exact small_of (by simp only [List.length_cons, List.length_map]; omega)
  · omega
  · intro m hm; exact rank_eq (by first | exact nle (by decide) | omega) (by first | exact nle (by decide) | omega) hw
  · omega
end Mine
end
/-! PuA -/
section
set_option maxRecDepth 100000
set_option linter.unusedVariables false
namespace Mine
open PySem
theorem v_usub (n : Nat) (sc : Scope) (loc : Loc) (x : Expr) (p : Pos) : (Ev.at ft (n + 1)).ev sc (.UnaryOp .USub x p) loc = (pk (Ev.at ft n) sc x loc).bind fun t => match t.1 with | .int i => some (.int (-i), false, t.2) | _ => none := rfl
theorem built_len {es : List (Int × V)} (h : small es.length = true) : builtV "len" [.dict es] = some (.int es.length) := by
  show (if small es.length = true then _ else _) = _; rw [if_pos h]
noncomputable def asgTs : Stmt → List Expr | .Assign [.Tuple ts _ _] _ _ => ts | _ => []
/-! _law_read -/
noncomputable def reL (a0 a1 a2 a3 a4 a5 a6 a7 a8 a9 a10 : O) : Loc := [(Str.ofString "table", a0), (Str.ofString "columns", a1), (Str.ofString "products", a2), (Str.ofString "made", a3), (Str.ofString "lap", a4), (Str.ofString "left", a5), (Str.ofString "lead", a6), (Str.ofString "low", a7), (Str.ofString "middle", a8), (Str.ofString "high", a9), (Str.ofString "code", a10)]
section
variable (a0 a1 a2 a3 a4 a5 a6 a7 a8 a9 a10 p : O)
theorem re_g0 : getL (reL a0 a1 a2 a3 a4 a5 a6 a7 a8 a9 a10) (Str.ofString "table") = a0 := by cases a0 <;> rfl
theorem re_s0 : setL (reL a0 a1 a2 a3 a4 a5 a6 a7 a8 a9 a10) (Str.ofString "table") p = reL p a1 a2 a3 a4 a5 a6 a7 a8 a9 a10 := rfl
theorem re_g1 : getL (reL a0 a1 a2 a3 a4 a5 a6 a7 a8 a9 a10) (Str.ofString "columns") = a1 := by cases a1 <;> rfl
theorem re_s1 : setL (reL a0 a1 a2 a3 a4 a5 a6 a7 a8 a9 a10) (Str.ofString "columns") p = reL a0 p a2 a3 a4 a5 a6 a7 a8 a9 a10 := rfl
theorem re_g2 : getL (reL a0 a1 a2 a3 a4 a5 a6 a7 a8 a9 a10) (Str.ofString "products") = a2 := by cases a2 <;> rfl
theorem re_g3 : getL (reL a0 a1 a2 a3 a4 a5 a6 a7 a8 a9 a10) (Str.ofString "made") = a3 := by cases a3 <;> rfl
theorem re_s3 : setL (reL a0 a1 a2 a3 a4 a5 a6 a7 a8 a9 a10) (Str.ofString "made") p = reL a0 a1 a2 p a4 a5 a6 a7 a8 a9 a10 := rfl
theorem re_g5 : getL (reL a0 a1 a2 a3 a4 a5 a6 a7 a8 a9 a10) (Str.ofString "left") = a5 := by cases a5 <;> rfl
theorem re_s5 : setL (reL a0 a1 a2 a3 a4 a5 a6 a7 a8 a9 a10) (Str.ofString "left") p = reL a0 a1 a2 a3 a4 p a6 a7 a8 a9 a10 := rfl
theorem re_g6 : getL (reL a0 a1 a2 a3 a4 a5 a6 a7 a8 a9 a10) (Str.ofString "lead") = a6 := by cases a6 <;> rfl
theorem re_g10 : getL (reL a0 a1 a2 a3 a4 a5 a6 a7 a8 a9 a10) (Str.ofString "code") = a10 := by cases a10 <;> rfl
theorem re_s10 : setL (reL a0 a1 a2 a3 a4 a5 a6 a7 a8 a9 a10) (Str.ofString "code") p = reL a0 a1 a2 a3 a4 a5 a6 a7 a8 a9 p := rfl
theorem re_k0 : kindAt (scOf "_law_read") (Str.ofString "table") = some .cell := rfl
theorem re_k1 : kindAt (scOf "_law_read") (Str.ofString "columns") = some .local := rfl
theorem re_k2 : kindAt (scOf "_law_read") (Str.ofString "products") = some .local := rfl
theorem re_k3 : kindAt (scOf "_law_read") (Str.ofString "made") = some .local := rfl
theorem re_k5 : kindAt (scOf "_law_read") (Str.ofString "left") = some .local := rfl
theorem re_k6 : kindAt (scOf "_law_read") (Str.ofString "lead") = some .local := rfl
theorem re_k10 : kindAt (scOf "_law_read") (Str.ofString "code") = some .local := rfl
end
theorem re_p0 (R : Ev) (loc : Loc) (p : Pos) : pk R (scOf "_law_read") (.Name (Str.ofString "table") p) loc = (getL loc (Str.ofString "table")).map fun q => (q.1, loc) := pk_nm _ _ _ _ _ (by rw [re_k0]; rfl)
theorem re_v0 (R : Ev) (loc : Loc) (p : Pos) : val R (scOf "_law_read") (.Name (Str.ofString "table") p) loc = (getL loc (Str.ofString "table")).map fun q => (q.1, if q.2 = true then setL loc (Str.ofString "table") (some (q.1, false)) else loc) := val_nm _ _ _ _ _ (by rw [re_k0]; rfl)
theorem re_u0 (a0 a1 a2 a3 a4 a5 a6 a7 a8 a9 a10 : O) (v : V) (b : Bool) : putN (scOf "_law_read") (Str.ofString "table") v b (reL a0 a1 a2 a3 a4 a5 a6 a7 a8 a9 a10) = some (reL (some (v, false)) a1 a2 a3 a4 a5 a6 a7 a8 a9 a10) := rfl
theorem re_v1 (R : Ev) (loc : Loc) (p : Pos) : val R (scOf "_law_read") (.Name (Str.ofString "columns") p) loc = (getL loc (Str.ofString "columns")).map fun q => (q.1, if q.2 = true then setL loc (Str.ofString "columns") (some (q.1, false)) else loc) := val_nm _ _ _ _ _ (by rw [re_k1]; rfl)
theorem re_p2 (R : Ev) (loc : Loc) (p : Pos) : pk R (scOf "_law_read") (.Name (Str.ofString "products") p) loc = (getL loc (Str.ofString "products")).map fun q => (q.1, loc) := pk_nm _ _ _ _ _ (by rw [re_k2]; rfl)
theorem re_v3 (R : Ev) (loc : Loc) (p : Pos) : val R (scOf "_law_read") (.Name (Str.ofString "made") p) loc = (getL loc (Str.ofString "made")).map fun q => (q.1, if q.2 = true then setL loc (Str.ofString "made") (some (q.1, false)) else loc) := val_nm _ _ _ _ _ (by rw [re_k3]; rfl)
theorem re_u3 (a0 a1 a2 a3 a4 a5 a6 a7 a8 a9 a10 : O) (v : V) (b : Bool) : putN (scOf "_law_read") (Str.ofString "made") v b (reL a0 a1 a2 a3 a4 a5 a6 a7 a8 a9 a10) = some (reL a0 a1 a2 (some (v, b)) a4 a5 a6 a7 a8 a9 a10) := rfl
theorem re_v5 (R : Ev) (loc : Loc) (p : Pos) : val R (scOf "_law_read") (.Name (Str.ofString "left") p) loc = (getL loc (Str.ofString "left")).map fun q => (q.1, if q.2 = true then setL loc (Str.ofString "left") (some (q.1, false)) else loc) := val_nm _ _ _ _ _ (by rw [re_k5]; rfl)
theorem re_u5 (a0 a1 a2 a3 a4 a5 a6 a7 a8 a9 a10 : O) (v : V) (b : Bool) : putN (scOf "_law_read") (Str.ofString "left") v b (reL a0 a1 a2 a3 a4 a5 a6 a7 a8 a9 a10) = some (reL a0 a1 a2 a3 a4 (some (v, b)) a6 a7 a8 a9 a10) := rfl
theorem re_p6 (R : Ev) (loc : Loc) (p : Pos) : pk R (scOf "_law_read") (.Name (Str.ofString "lead") p) loc = (getL loc (Str.ofString "lead")).map fun q => (q.1, loc) := pk_nm _ _ _ _ _ (by rw [re_k6]; rfl)
theorem re_u6 (a0 a1 a2 a3 a4 a5 a6 a7 a8 a9 a10 : O) (v : V) (b : Bool) : putN (scOf "_law_read") (Str.ofString "lead") v b (reL a0 a1 a2 a3 a4 a5 a6 a7 a8 a9 a10) = some (reL a0 a1 a2 a3 a4 a5 (some (v, b)) a7 a8 a9 a10) := rfl
theorem re_p10 (R : Ev) (loc : Loc) (p : Pos) : pk R (scOf "_law_read") (.Name (Str.ofString "code") p) loc = (getL loc (Str.ofString "code")).map fun q => (q.1, loc) := pk_nm _ _ _ _ _ (by rw [re_k10]; rfl)
theorem re_v10 (R : Ev) (loc : Loc) (p : Pos) : val R (scOf "_law_read") (.Name (Str.ofString "code") p) loc = (getL loc (Str.ofString "code")).map fun q => (q.1, if q.2 = true then setL loc (Str.ofString "code") (some (q.1, false)) else loc) := val_nm _ _ _ _ _ (by rw [re_k10]; rfl)
theorem re_c__law_lead (n : Nat) (loc : Loc) (p q : Pos) (e : Expr) (r : List Expr) : (Ev.at ft (n + 1)).ev (scOf "_law_read") (.Call (.Name (Str.ofString "_law_lead") p) (e :: r) [] q) loc = (vals (Ev.at ft n) (scOf "_law_read") (e :: r) loc).bind fun t => ((Ev.at ft n).call (Str.ofString "_law_lead") t.1).bind fun u => some (u.1, u.2, t.2) := v_call _ _ _ _ _ _ _ rfl rfl rfl rfl rfl
theorem re_c__law_added (n : Nat) (loc : Loc) (p q : Pos) (e : Expr) (r : List Expr) : (Ev.at ft (n + 1)).ev (scOf "_law_read") (.Call (.Name (Str.ofString "_law_added") p) (e :: r) [] q) loc = (vals (Ev.at ft n) (scOf "_law_read") (e :: r) loc).bind fun t => ((Ev.at ft n).call (Str.ofString "_law_added") t.1).bind fun u => some (u.1, u.2, t.2) := v_call _ _ _ _ _ _ _ rfl rfl rfl rfl rfl
theorem re_c__law_times (n : Nat) (loc : Loc) (p q : Pos) (e : Expr) (r : List Expr) : (Ev.at ft (n + 1)).ev (scOf "_law_read") (.Call (.Name (Str.ofString "_law_times") p) (e :: r) [] q) loc = (vals (Ev.at ft n) (scOf "_law_read") (e :: r) loc).bind fun t => ((Ev.at ft n).call (Str.ofString "_law_times") t.1).bind fun u => some (u.1, u.2, t.2) := v_call _ _ _ _ _ _ _ rfl rfl rfl rfl rfl
theorem re_start (x y z : V) : fLoc (fdAt "_law_read") [x, y, z] = reL (some (x, false)) (some (y, false)) (some (z, false)) none none none none none none none none := rfl
theorem re_0 {n : Nat} (a b c d e f g h i j k : O) (hn : 20 ≤ n) : (Ev.at ft n).exec (scOf "_law_read") (stAt (bdOf "_law_read") 0) (reL a b c d e f g h i j k) = some (.next, reL a b c (some (.dict [], true)) e f g h i j k) := by
  obtain ⟨n, rfl⟩ := up hn
  rfl
theorem re_iter {n : Nat} (es : List (Int × V)) (a b d e f g h i j k : O) (hn : 20 ≤ n) (hs : es.length ≤ 90) : iter (Ev.at ft n) (scOf "_law_read") (forI (stAt (bdOf "_law_read") 1)) (reL a b (some (.dict es, false)) d e f g h i j k) = some (upTo (es.length + 1), reL a b (some (.dict es, false)) d e f g h i j k) := by
  obtain ⟨n, rfl⟩ := up hn
  have e1 : iter (Ev.at ft (n + 20)) (scOf "_law_read") (forI (stAt (bdOf "_law_read") 1)) (reL a b (some (.dict es, false)) d e f g h i j k) = (((((builtV "len" [.dict es]).bind fun v => some (v, false, reL a b (some (.dict es, false)) d e f g h i j k)).map fun x => (x.1, x.2.2)).bind fun t => (some (V.int 1, t.2)).bind fun u => (binV .Add t.1 u.1).bind fun r => some (r, false, u.2)).map fun x => (x.1, x.2.2)).bind fun p => match p.1 with
    | .int n => if (decide (0 ≤ n) && decide (n ≤ 100)) = true then some (upTo n.toNat, p.2) else none
    | _ => none := rfl
  rw [e1, built_len (small_of (by first | exact nle (by decide) | omega))]
  show (if (decide (0 ≤ (es.length : Int) + 1) && decide ((es.length : Int) + 1 ≤ 100)) = true then some (upTo ((es.length : Int) + 1).toNat, reL a b (some (.dict es, false)) d e f g h i j k) else none) = _
  rw [if_pos (by rw [decide_eq_true (by first | exact nle (by decide) | omega), decide_eq_true (by first | exact nle (by decide) | omega)]; rfl), show ((es.length : Int) + 1).toNat = es.length + 1 by omega]
noncomputable abbrev reX : Expr := asgV (stAt (forB (stAt (bdOf "_law_read") 1)) 0)
noncomputable def reC (t : List (Int × V)) (p : O × O) : Loc := [(Str.ofString ".0", p.1), (Str.ofString "key", p.2), (Str.ofString "table", some (.dict t, false))]
theorem re_lap1 {n : Nat} (t : List (Int × V)) (rec : List V → Loc → Option (List V × Loc)) (k x : Int) (a : O × O) (hn : 10 ≤ n) (hx : lookE t k = some (.int x)) : ∃ a', lapV (Ev.at ft n) rec (lcS reX) (lcE reX) (gAt (lcG reX) 0) [] (.int k) (reC t a) = some (if (x != 0) = true then [.int k] else [], reC t a') := by
  obtain ⟨n, rfl⟩ := up hn
  refine ⟨(a.1, some (.int k, false)), ?_⟩
  unfold lapV
  rw [show target (lcS reX) (gAt (lcG reX) 0).target (.int k) (reC t a) = some (reC t (a.1, some (.int k, false))) from rfl, Option.bind_eq_bind, Option.bind_some]
  have e1 : tests (Ev.at ft (n + 10)) (lcS reX) (gAt (lcG reX) 0).ifs (reC t (a.1, some (.int k, false))) = ((((lookE t k).bind fun r => some (r, false, reC t (a.1, some (.int k, false)))).map fun x => (x.1, x.2.2)).bind fun p => (cmpV .NotEq p.1 (.int 0)).bind fun v => some (v, p.2)).bind fun q => if q.1 = true then some (true, q.2) else some (false, q.2) := rfl
  have e2 : tests (Ev.at ft (n + 10)) (lcS reX) (gAt (lcG reX) 0).ifs (reC t (a.1, some (.int k, false))) = if (x != 0) = true then some (true, reC t (a.1, some (.int k, false))) else some (false, reC t (a.1, some (.int k, false))) := by
    rw [e1, hx]; rfl
  rw [e2]
  cases (x != 0) <;> rfl
theorem re_comp {n : Nat} (t : List (Int × Int)) (b c d e f g h i j k : O) (hn : 20 ≤ n) (hs : t.length ≤ 1000) : listComp (Ev.at ft n) (scOf "_law_read") (lcE reX) (lcG reX) (lcS reX) (reL (some (.dict (toV t), false)) b c d e f g h i j k) =
    some (.list (((t.map (·.1)).filter fun k => (getI t k).getD 0 != 0).map V.int), reL (some (.dict (toV t), false)) b c d e f g h i j k) := by
  obtain ⟨n, rfl⟩ := up hn
  have hsm : small ((toV t).map fun e => V.int e.1).length = true := small_of (by rw [List.length_map, toV_len]; omega)
  rw [listComp_eq (rfl : lcOk _ _ _ (reL (some (.dict (toV t), false)) b c d e f g h i j k) = true)]
  refine bind_of (a := ((toV t).map fun e => V.int e.1, reL (some (.dict (toV t), false)) b c d e f g h i j k)) ?_ ?_
  · have gen : ∀ es : List (Int × V), iter (Ev.at ft (n + 20)) (scOf "_law_read") (gAt (lcG reX) 0).iter (reL (some (.dict es, false)) b c d e f g h i j k) = (if small (es.map fun e => V.int e.1).length = true then some (es.map (fun e => V.int e.1), reL (some (.dict es, false)) b c d e f g h i j k) else none) := fun es => rfl
    rw [gen, if_pos hsm]
  · obtain ⟨a', hcm⟩ := compL_map (f := lapV (Ev.at ft (n + 20)) (compG (Ev.at ft (n + 20)) (lcS reX) (lcE reX) []) (lcS reX) (lcE reX) (gAt (lcG reX) 0) []) (mk := reC (toV t)) (g := fun v => match v with | .int k => if ((getI t k).getD 0 != 0) = true then [.int k] else [] | _ => []) (items := (toV t).map fun e => V.int e.1) (a := (none, none)) (fun v hv a => by
      rw [keysV] at hv
      obtain ⟨q, hq, rfl⟩ := List.mem_map.mp hv
      obtain ⟨x, hx⟩ := Option.isSome_iff_exists.mp ((getI_isSome t q).mpr hq)
      have := re_lap1 (toV t) (compG (Ev.at ft (n + 20)) (lcS reX) (lcE reX) []) q x a (show 10 ≤ n + 20 by omega) (by rw [lookE_toV, hx]; rfl)
      dsimp only
      rw [hx]
      exact this)
    rw [keysV, flat_filter (P := fun k => (getI t k).getD 0 != 0) (fun k => rfl)] at hcm
    have gen : ∀ es : List (Int × V), compLoc (reL (some (.dict es, false)) b c d e f g h i j k) (lcS reX).names = reC es (none, none) := fun es => rfl
    rw [keysV]
    dsimp only
    rw [gen]
    refine bind_of (a := (_, reC (toV t) a')) hcm (if_pos (small_of ?_))
    dsimp only
    rw [List.length_map]
    have := List.length_filter_le (fun k => (getI t k).getD 0 != 0) (t.map (·.1))
    rw [List.length_map] at this
    omega
theorem re_b0 {n : Nat} (t : List (Int × Int)) (b c d e f g h i j k : O) (hn : 30 ≤ n) (hs : t.length ≤ 1000) : (Ev.at ft n).exec (scOf "_law_read") (stAt (forB (stAt (bdOf "_law_read") 1)) 0) (reL (some (.dict (toV t), false)) b c d e f g h i j k) = some (.next, reL (some (.dict (toV t), false)) b c d e (some (.list (((t.map (·.1)).filter fun k => (getI t k).getD 0 != 0).map V.int), false)) g h i j k) := by
  obtain ⟨n, rfl⟩ := up hn
  have hc := re_comp (n := n + 28) t b c d e f g h i j k (by first | exact nle (by decide) | omega) hs
  have e1 : ∀ es : List (Int × V), (Ev.at ft (n + 29)).ev (scOf "_law_read") reX (reL (some (.dict es, false)) b c d e f g h i j k) = ((listComp (Ev.at ft (n + 28)) (scOf "_law_read") (lcE reX) (lcG reX) (lcS reX) (reL (some (.dict es, false)) b c d e f g h i j k)).bind fun t => some (t.1, false, t.2)) := fun es => rfl
  show (Ev.at ft (n + 30)).exec (scOf "_law_read") (.Assign [.Name _ _] reX _) _ = _
  rw [x_asg, e1, hc]
  simp only [Option.bind_some, re_u5]
theorem cmp_list_nil (l : List Int) : cmpV .Eq (.list (l.map V.int)) (.list []) = some (decide (l = [])) := by
  show (match intsV (l.map V.int), intsV [] with
    | some x, some y => some (decide (x = y))
    | _, _ => none) = _
  rw [intsV_map']; rfl
theorem re_b1t {n : Nat} (vs : List V) (m : V) (o : Bool) (a b c e g h i j k : O) (hn : 20 ≤ n) (hc : cmpV .Eq (.list vs) (.list []) = some true) : ∃ l, (Ev.at ft n).exec (scOf "_law_read") (stAt (forB (stAt (bdOf "_law_read") 1)) 1) (reL a b c (some (m, o)) e (some (.list vs, false)) g h i j k) = some (.ret m o, l) := by
  obtain ⟨n, rfl⟩ := up hn
  have e1 : (Ev.at ft (n + 19)).tst (scOf "_law_read") (ifT (stAt (forB (stAt (bdOf "_law_read") 1)) 1)) (reL a b c (some (m, o)) e (some (.list vs, false)) g h i j k) = (cmpV .Eq (.list vs) (.list [])).bind fun v => some (v, reL a b c (some (m, o)) e (some (.list vs, false)) g h i j k) := rfl
  rw [hc] at e1
  cases o
  · refine ⟨reL a b c (some (m, false)) e (some (.list vs, false)) g h i j k, ?_⟩
    rw [exec_if_t (rfl : stAt (forB (stAt (bdOf "_law_read") 1)) 1 = .If _ _ _ _) e1]; rfl
  · refine ⟨reL a b c none e (some (.list vs, false)) g h i j k, ?_⟩
    rw [exec_if_t (rfl : stAt (forB (stAt (bdOf "_law_read") 1)) 1 = .If _ _ _ _) e1]; rfl
theorem re_b1f {n : Nat} (vs : List V) (a b c d e g h i j k : O) (hn : 20 ≤ n) (hc : cmpV .Eq (.list vs) (.list []) = some false) : (Ev.at ft n).exec (scOf "_law_read") (stAt (forB (stAt (bdOf "_law_read") 1)) 1) (reL a b c d e (some (.list vs, false)) g h i j k) = some (.next, reL a b c d e (some (.list vs, false)) g h i j k) := by
  obtain ⟨n, rfl⟩ := up hn
  have e1 : (Ev.at ft (n + 19)).tst (scOf "_law_read") (ifT (stAt (forB (stAt (bdOf "_law_read") 1)) 1)) (reL a b c d e (some (.list vs, false)) g h i j k) = (cmpV .Eq (.list vs) (.list [])).bind fun v => some (v, reL a b c d e (some (.list vs, false)) g h i j k) := rfl
  rw [hc] at e1
  rw [exec_if_f (rfl : stAt (forB (stAt (bdOf "_law_read") 1)) 1 = .If _ _ _ _) e1]; rfl
theorem re_b2 {n : Nat} (lv cv : V) (r : Int) (a c d e g h i j k : O) (hn : 20 ≤ n) (hr : ∀ m, n ≤ m + 20 → (Ev.at ft m).call (Str.ofString "_law_lead") [lv, cv] = some (.int r, false)) : (Ev.at ft n).exec (scOf "_law_read") (stAt (forB (stAt (bdOf "_law_read") 1)) 2) (reL a (some (cv, false)) c d e (some (lv, false)) g h i j k) = some (.next, reL a (some (cv, false)) c d e (some (lv, false)) (some (.int r, false)) h i j k) := by
  obtain ⟨n, rfl⟩ := up hn
  have hr := hr (n + 18) (by first | exact nle (by decide) | omega)
  show (Ev.at ft (n + 20)).exec (scOf "_law_read") (.Assign [.Name _ _] (.Call _ [.Name _ _, .Name _ _] [] _) _) _ = _
  simp only [x_asg, Option.map_some, Option.bind_some, vals_nil, vals_cons, Option.bind_eq_bind, re_g1, re_s1, re_g5, re_s5, re_v1, re_v5, re_u6, re_c__law_lead, hr, Bool.false_eq_true, if_false]
theorem re_b3 {n : Nat} (l x y z : Int) (a b c d e f h i j k : O) (hn : 30 ≤ n) (hs : sortI [l.fdiv 100, (l.fdiv 10).fmod 10, l.fmod 10] = [x, y, z]) : (Ev.at ft n).exec (scOf "_law_read") (stAt (forB (stAt (bdOf "_law_read") 1)) 3) (reL a b c d e f (some (.int l, false)) h i j k) = some (.next, reL a b c d e f (some (.int l, false)) (some (.int x, false)) (some (.int y, false)) (some (.int z, false)) k) := by
  obtain ⟨n, rfl⟩ := up hn
  have e1 : (Ev.at ft (n + 30)).exec (scOf "_law_read") (stAt (forB (stAt (bdOf "_law_read") 1)) 3) (reL a b c d e f (some (.int l, false)) h i j k) = (putNs (scOf "_law_read") (asgTs (stAt (forB (stAt (bdOf "_law_read") 1)) 3)) (((sortI [l.fdiv 100, (l.fdiv 10).fmod 10, l.fmod 10]).map V.int).map fun v => (v, false)) (reL a b c d e f (some (.int l, false)) h i j k)).bind fun l => some (.next, l) := rfl
  rw [e1, hs]
  rfl
theorem re_b4 {n : Nat} (x y z : Int) (a b c d e f g k : O) (hn : 30 ≤ n) : (Ev.at ft n).exec (scOf "_law_read") (stAt (forB (stAt (bdOf "_law_read") 1)) 4) (reL a b c d e f g (some (.int x, false)) (some (.int y, false)) (some (.int z, false)) k) = some (.next, reL a b c d e f g (some (.int x, false)) (some (.int y, false)) (some (.int z, false)) (some (.int (100 * (z - y) + 10 * (y - x) + x), false))) := by
  obtain ⟨n, rfl⟩ := up hn
  rfl
theorem re_b5 {n : Nat} (es : List (Int × V)) (q : Int) (v : V) (a b d e f g h i j : O) (hn : 30 ≤ n) (hq : lookE es q = some v) : (Ev.at ft n).exec (scOf "_law_read") (stAt (forB (stAt (bdOf "_law_read") 1)) 5) (reL a b (some (.dict es, false)) d e f g h i j (some (.int q, false))) = some (.next, reL a b (some (.dict es, false)) d e f g h i j (some (.int q, false))) := by
  obtain ⟨n, rfl⟩ := up hn
  have e1 : (Ev.at ft (n + 29)).tst (scOf "_law_read") (ifT (stAt (forB (stAt (bdOf "_law_read") 1)) 5)) (reL a b (some (.dict es, false)) d e f g h i j (some (.int q, false))) = some (!(lookE es q).isSome, reL a b (some (.dict es, false)) d e f g h i j (some (.int q, false))) := rfl
  rw [hq] at e1
  rw [exec_if_f (rfl : stAt (forB (stAt (bdOf "_law_read") 1)) 5 = .If _ _ _ _) e1]; rfl
theorem re_b6 {n : Nat} (t : List (Int × V)) (m : V) (o o2 : Bool) (q l : Int) (x r : V) (b c e f h i j : O) (hn : 30 ≤ n) (hx : lookE t l = some x) (hr : ∀ k, n ≤ k + 20 → (Ev.at ft k).call (Str.ofString "_law_added") [m, .dict [(q, x)]] = some (r, o2)) : (Ev.at ft n).exec (scOf "_law_read") (stAt (forB (stAt (bdOf "_law_read") 1)) 6) (reL (some (.dict t, false)) b c (some (m, o)) e f (some (.int l, false)) h i j (some (.int q, false))) = some (.next, reL (some (.dict t, false)) b c (some (r, o2)) e f (some (.int l, false)) h i j (some (.int q, false))) := by
  obtain ⟨n, rfl⟩ := up hn
  have hi : itemV (.dict t) (.int l) = some x := hx
  have hr := hr (n + 28) (by first | exact nle (by decide) | omega)
  show (Ev.at ft (n + 30)).exec (scOf "_law_read") (.Assign [.Name _ _] (.Call _ [.Name _ _, .Dict [some (.Name _ _)] [.Subscript (.Name _ _) (.Name _ _) _] _] [] _) _) _ = _
  cases o
  · simp only [val_Dict, val_Subscript, vi_nm, v_dict, x_asg, Option.map_some, Option.bind_some, vals_nil, vals_cons, Option.bind_eq_bind, re_g0, re_g3, re_s3, re_g6, re_g10, re_s10, re_p0, re_v3, re_u3, re_p6, re_v10, re_c__law_added, pairs_nil, pairs_cons, hi, hr, List.foldl, storeE, List.length, Bool.false_eq_true, if_false, Nat.reduceAdd, Nat.reduceLeDiff, decide_true, if_true]
  · simp only [val_Dict, val_Subscript, vi_nm, v_dict, x_asg, Option.map_some, Option.bind_some, vals_nil, vals_cons, Option.bind_eq_bind, re_g0, re_g3, re_s3, re_g6, re_g10, re_s10, re_p0, re_v3, re_u3, re_p6, re_v10, re_c__law_added, pairs_nil, pairs_cons, hi, hr, List.foldl, storeE, List.length, Bool.false_eq_true, if_false, Nat.reduceAdd, Nat.reduceLeDiff, decide_true, if_true]
theorem re_b7 {n : Nat} (t es : List (Int × V)) (q l x : Int) (p r w : V) (o o2 : Bool) (b d e f h i j : O) (hn : 30 ≤ n) (hq : lookE es q = some p) (hx : lookE t l = some (.int x)) (hw : ∀ k, n ≤ k + 25 → (Ev.at ft k).call (Str.ofString "_law_times") [p, .int (-x)] = some (w, o)) (hr : ∀ k, n ≤ k + 25 → (Ev.at ft k).call (Str.ofString "_law_added") [.dict t, w] = some (r, o2)) : (Ev.at ft n).exec (scOf "_law_read") (stAt (forB (stAt (bdOf "_law_read") 1)) 7) (reL (some (.dict t, false)) b (some (.dict es, false)) d e f (some (.int l, false)) h i j (some (.int q, false))) = some (.next, reL (some (r, false)) b (some (.dict es, false)) d e f (some (.int l, false)) h i j (some (.int q, false))) := by
  obtain ⟨n, rfl⟩ := up hn
  have hi : itemV (.dict t) (.int l) = some (.int x) := hx
  have hj : itemV (.dict es) (.int q) = some p := hq
  have hr := hr (n + 28) (by first | exact nle (by decide) | omega)
  have hw1 := hw (n + 27) (by first | exact nle (by decide) | omega)
  show (Ev.at ft (n + 30)).exec (scOf "_law_read") (.Assign [.Name _ _] (.Call _ [.Name _ _, .Call _ [.Subscript (.Name _ _) (.Name _ _) _, .UnaryOp .USub (.Subscript (.Name _ _) (.Name _ _) _) _] [] _] [] _) _) _ = _
  simp only [val_UnaryOp, val_Call, val_Subscript, pk_Subscript, vi_nm, x_asg, Option.map_some, Option.bind_some, vals_nil, vals_cons, Option.bind_eq_bind, re_g0, re_s0, re_g2, re_g6, re_g10, re_p0, re_v0, re_u0, re_p2, re_p6, re_p10, re_c__law_added, re_c__law_times, v_usub, hi, hj, hr, hw1, Bool.false_eq_true, if_false]
end Mine
end
/-! PuB -/
section
set_option maxRecDepth 100000
set_option linter.unusedVariables false
namespace Mine
open PySem
noncomputable def vl (t : List (Int × Int)) (k : Int) : Int := (getI t k).getD 0
theorem vl_zero {t : List (Int × Int)} {k : Int} (h : k ∉ t.map (·.1)) : vl t k = 0 := by
  unfold vl; rw [getI_none.mpr h]; rfl
theorem vl_mem {t : List (Int × Int)} {k : Int} (h : vl t k ≠ 0) : k ∈ t.map (·.1) := by
  by_cases hm : k ∈ t.map (·.1)
  · exact hm
  · exact absurd (vl_zero hm) h
theorem vl_addP (t : List (Int × Int)) (p : Int × Int) (k : Int) : vl (addP t p) k = vl t k + if p.1 = k then p.2 else 0 := by
  unfold vl
  rw [getI_addP]
  by_cases h : p.1 = k
  · rw [if_pos h, if_pos h]
    cases getI t k <;> simp
  · rw [if_neg h, if_neg h]; omega
theorem vl_addI : ∀ {s t : List (Int × Int)} (k : Int), (s.map (·.1)).Nodup → vl (addI t s) k = vl t k + vl s k
  | [], t, k, _ => by simp [addI, vl, getI]
  | p :: s, t, k, h => by
    rw [List.map_cons, List.nodup_cons] at h
    show vl (addI (addP t p) s) k = _
    rw [vl_addI k h.2, vl_addP]
    by_cases hk : p.1 = k
    · rw [if_pos hk, vl_zero (t := s) (by rw [← hk]; exact h.1)]
      have : vl (p :: s) k = p.2 := by obtain ⟨a, b⟩ := p; unfold vl; rw [getI, if_pos hk]; rfl
      rw [this]; omega
    · have : vl (p :: s) k = vl s k := by obtain ⟨a, b⟩ := p; unfold vl; rw [getI, if_neg hk]
      rw [if_neg hk, this]; omega
theorem timesI_keys (l : List (Int × Int)) (m : Int) : (timesI l m).map (·.1) = l.map (·.1) := by simp [timesI]
theorem timesI_length (l : List (Int × Int)) (m : Int) : (timesI l m).length = l.length := by simp [timesI]
theorem vl_timesI : ∀ (l : List (Int × Int)) (m k : Int), vl (timesI l m) k = vl l k * m
  | [], m, k => by simp [timesI, vl, getI]
  | (a, b) :: l, m, k => by
    have ih := vl_timesI l m k
    unfold vl at ih ⊢
    simp only [timesI, List.map_cons, getI] at ih ⊢
    split
    · simp
    · exact ih
theorem putI_new : ∀ {l : List (Int × Int)} {k v : Int}, k ∉ l.map (·.1) → putI l k v = l ++ [(k, v)]
  | [], k, v, _ => rfl
  | (a, b) :: l, k, v, h => by
    rw [List.map_cons, List.mem_cons, not_or] at h
    rw [putI, if_neg (fun e => h.1 e.symm), putI_new h.2]; rfl
theorem addP_new {l : List (Int × Int)} {p : Int × Int} (h : p.1 ∉ l.map (·.1)) : addP l p = l ++ [p] := by
  unfold addP; rw [getI_none.mpr h, putI_new h]

noncomputable abbrev Ent := Int × Int × List (Int × Int)
noncomputable def tdVal : List (Ent × Int) → Int → Int
  | [], _ => 0
  | (e, c) :: r, k => c * vl e.2.2 k + tdVal r k
noncomputable def outs : List (Ent × Int) → List (Int × Int)
  | [] => []
  | (e, c) :: r => if c = 0 then outs r else (e.1, c) :: outs r
noncomputable def code3 : List Int → Option Int
  | [x, y, z] => some (100 * (z - y) + 10 * (y - x) + x)
  | _ => none
noncomputable def codeOf (l : Int) : Option Int := code3 (sortI [l.fdiv 100, (l.fdiv 10).fmod 10, l.fmod 10])
/-- what a column gives for a product -/
noncomputable def entOk (cols : List (Fin 3 × Int)) (e : Ent) : Prop :=
  (e.2.2.map (·.1)).Nodup ∧ (∀ k ∈ e.2.2.map (·.1), k ∈ keysAll) ∧ e.2.2.length ≤ 100 ∧ vl e.2.2 e.2.1 = 1 ∧
  (∀ k ∈ e.2.2.map (·.1), k = e.2.1 ∨ rkOf cols e.2.1 < rkOf cols k) ∧ codeOf e.2.1 = some e.1
theorem ent_rank {cols : List (Fin 3 × Int)} {e : Ent} {k : Int} (h : entOk cols e) (hv : vl e.2.2 k ≠ 0) : k = e.2.1 ∨ rkOf cols e.2.1 < rkOf cols k := h.2.2.2.2.1 k (vl_mem hv)
theorem tdVal_c {e : Ent} {c : Int} {r : List (Ent × Int)} {k : Int} : tdVal ((e, c) :: r) k = c * vl e.2.2 k + tdVal r k := rfl
theorem outs_c {e : Ent} {c : Int} {r : List (Ent × Int)} : outs ((e, c) :: r) = if c = 0 then outs r else (e.1, c) :: outs r := rfl
theorem td_zero {cols : List (Fin 3 × Int)} {L : Int} : ∀ {td : List (Ent × Int)}, (∀ p ∈ td, entOk cols p.1) → (∀ p ∈ td, rkOf cols L < rkOf cols p.1.2.1) → tdVal td L = 0
  | [], _, _ => rfl
  | (e, c) :: r, h1, h2 => by
    have ih := td_zero (fun p hp => h1 p (.tail _ hp)) (fun p hp => h2 p (.tail _ hp))
    have hr := h2 _ (.head _)
    have h0 : vl e.2.2 L = 0 := by
      by_cases hv : vl e.2.2 L = 0
      · exact hv
      · rcases ent_rank (h1 _ (.head _)) hv with hh | hh
        · dsimp only at hr; rw [← hh] at hr; omega
        · dsimp only at hr hh; omega
    rw [tdVal_c, h0, ih]; omega
theorem td_rank {cols : List (Fin 3 × Int)} {k : Int} : ∀ {td : List (Ent × Int)}, (∀ p ∈ td, entOk cols p.1) → tdVal td k ≠ 0 → ∃ p ∈ td, k = p.1.2.1 ∨ rkOf cols p.1.2.1 < rkOf cols k
  | [], _, h => absurd rfl h
  | (e, c) :: r, h1, h => by
    by_cases hv : vl e.2.2 k = 0
    · rw [tdVal_c, hv] at h
      obtain ⟨p, hp, hh⟩ := td_rank (fun p hp => h1 p (.tail _ hp)) (show tdVal r k ≠ 0 by omega)
      exact ⟨p, .tail _ hp, hh⟩
    · exact ⟨_, .head _, ent_rank (h1 _ (.head _)) hv⟩
theorem fold_lead {cols : List (Fin 3 × Int)} {L : Int} : ∀ (ks : List Int) (a : Int), (∀ k ∈ ks, k = L ∨ rkOf cols L < rkOf cols k) → (a = L ∨ rkOf cols L < rkOf cols a) → (L ∈ ks ∨ a = L) → ks.foldl (ldS cols) a = L
  | [], a, _, _, h => by
    rcases h with h | h
    · cases h
    · exact h
  | k :: ks, a, h1, h2, h3 => by
    rw [List.foldl_cons]
    have hk := h1 k (.head _)
    have e : (ldS cols a k = L ∨ rkOf cols L < rkOf cols (ldS cols a k)) ∧ (L ∈ ks ∨ ldS cols a k = L) := by
      unfold ldS
      by_cases hlt : rkOf cols k < rkOf cols a
      · rw [if_pos hlt]
        refine ⟨hk, ?_⟩
        rcases hk with hk | hk
        · exact .inr hk
        · rcases h3 with h3 | h3
          · rcases List.mem_cons.mp h3 with h3 | h3
            · exact .inr h3.symm
            · exact .inl h3
          · rw [h3] at hlt; omega
      · rw [if_neg hlt]
        refine ⟨h2, ?_⟩
        rcases h3 with h3 | h3
        · rcases List.mem_cons.mp h3 with h3 | h3
          · subst h3
            rcases h2 with h2 | h2
            · exact .inr h2
            · omega
          · exact .inl h3
        · exact .inr h3
    exact fold_lead ks _ (fun x hx => h1 x (.tail _ hx)) e.1 e.2
/-- the keys that are left -/
noncomputable def leftK (t : List (Int × Int)) : List Int := (t.map (·.1)).filter fun k => (getI t k).getD 0 != 0
theorem leftK_mem {t : List (Int × Int)} {k : Int} : k ∈ leftK t ↔ vl t k ≠ 0 := by
  unfold leftK
  rw [List.mem_filter]
  constructor
  · intro h; simpa [vl] using h.2
  · intro h; exact ⟨vl_mem h, by simpa [vl] using h⟩
theorem left_lead {cols : List (Fin 3 × Int)} {t : List (Int × Int)} {e : Ent} {c : Int} {r : List (Ent × Int)} (hc : c ≠ 0) (hv : ∀ k, vl t k = tdVal ((e, c) :: r) k) (ho : ∀ p ∈ (e, c) :: r, entOk cols p.1) (hr : ∀ p ∈ r, rkOf cols e.2.1 < rkOf cols p.1.2.1) : vl t e.2.1 = c ∧ ∃ k0 ks, leftK t = k0 :: ks ∧ (k0 :: ks).foldl (ldS cols) k0 = e.2.1 := by
  have h1 : vl e.2.2 e.2.1 = 1 := (ho _ (.head _)).2.2.2.1
  have hL : vl t e.2.1 = c := by
    rw [hv, tdVal_c, h1, td_zero (fun p hp => ho p (.tail _ hp)) hr]; omega
  have hm : e.2.1 ∈ leftK t := leftK_mem.mpr (by rw [hL]; exact hc)
  have hall : ∀ k ∈ leftK t, k = e.2.1 ∨ rkOf cols e.2.1 < rkOf cols k := by
    intro k hk
    have hk := leftK_mem.mp hk
    rw [hv] at hk
    obtain ⟨p, hp, hh⟩ := td_rank ho hk
    rcases List.mem_cons.mp hp with rfl | hp
    · exact hh
    · have := hr p hp
      rcases hh with hh | hh
      · right; rw [hh]; exact this
      · right; omega
  refine ⟨hL, ?_⟩
  match h : leftK t with
  | [] => rw [h] at hm; cases hm
  | k0 :: ks =>
    rw [h] at hall hm
    exact ⟨k0, ks, rfl, fold_lead _ _ hall (hall k0 (.head _)) (.inl hm)⟩
theorem ls8 {l : List Stmt} {a b d e i j k m : Stmt} (h : l = [a, b, d, e, i, j, k, m]) : l = [stAt l 0, stAt l 1, stAt l 2, stAt l 3, stAt l 4, stAt l 5, stAt l 6, stAt l 7] := by rw [h]; rfl
theorem code3_some {l : List Int} {q : Int} (h : code3 l = some q) : ∃ x y z, l = [x, y, z] ∧ q = 100 * (z - y) + 10 * (y - x) + x := by
  cases l with
  | nil => exact no h
  | cons x l => cases l with
    | nil => exact no h
    | cons y l => cases l with
      | nil => exact no h
      | cons z l => cases l with
        | nil => exact ⟨x, y, z, rfl, (some1 h).symm⟩
        | cons _ _ => exact no h
theorem codeOf_some {l q : Int} (h : codeOf l = some q) : ∃ x y z, sortI [l.fdiv 100, (l.fdiv 10).fmod 10, l.fmod 10] = [x, y, z] ∧ q = 100 * (z - y) + 10 * (y - x) + x := code3_some h
theorem re_lapEnd {n : Nat} {t : List (Int × Int)} {m : V} {b : Bool} {v : V} {B C : O} (d e f g h i j : O) (hn : 40 ≤ n) (ht : t.length ≤ 1000) (hl : leftK t = []) : ∃ l, lapAt n "_law_read" 1 v (reL (some (.dict (toV t), false)) B C (some (m, b)) d e f g h i j) = some (.ret m b, l) := by
  obtain ⟨n, rfl⟩ := up hn
  obtain ⟨l, e1⟩ := re_b1t (n := n + 38) (((t.map (·.1)).filter fun k => (getI t k).getD 0 != 0).map V.int) m b (some (.dict (toV t), false)) B C (some (v, false)) f g h i j (by first | exact nle (by decide) | omega) (by rw [cmp_list_nil, show ((t.map (·.1)).filter fun k => (getI t k).getD 0 != 0) = [] from hl]; rfl)
  have gen : ∀ A : O, target (scOf "_law_read") (forT (stAt (bdOf "_law_read") 1)) v (reL A B C (some (m, b)) d e f g h i j) = some (reL A B C (some (m, b)) (some (v, false)) e f g h i j) := fun A => rfl
  refine ⟨l, ?_⟩
  rw [lap_eq, gen, Option.bind_some, ls8 (l := forB (stAt (bdOf "_law_read") 1)) rfl, execs_next (re_b0 _ _ _ _ _ _ _ _ _ _ _ (by first | exact nle (by decide) | omega) ht), execs_done (e1)]
/-- the frame of _law_read between two laps -/
inductive ReS (cols : List (Fin 3 × Int)) (es : List (Int × V)) (t m : List (Int × Int)) (b : Bool) : Loc → Prop
  | mk (d e f g h i j : O) : ReS cols es t m b (reL (some (.dict (toV t), false)) (some (.list (colV cols), false)) (some (.dict es, false)) (some (.dict (toV m), b)) d e f g h i j)
theorem re_lapGo {n : Nat} {cols : List (Fin 3 × Int)} {es : List (Int × V)} {t m : List (Int × Int)} {b : Bool} {v : V} {E : Ent} {c k0 : Int} {ks : List Int} {L : Loc} (hS : ReS cols es t m b L) (hn : 130 ≤ n) (hcol : cols ∈ allCols) (ht : t.length ≤ 900) (htn : (t.map (·.1)).Nodup) (htk : ∀ k ∈ t.map (·.1), k ∈ keysAll) (hm : m.length ≤ 900) (hmn : (m.map (·.1)).Nodup) (hmq : E.1 ∉ m.map (·.1)) (ho : entOk cols E) (he : lookE es E.1 = some (.dict (toV E.2.2))) (hf : fits (-c) = true) (hv : vl t E.2.1 = c) (hc : c ≠ 0) (hl : leftK t = k0 :: ks) (hL : (k0 :: ks).foldl (ldS cols) k0 = E.2.1) :
    ∃ L', lapAt n "_law_read" 1 v L = some (.next, L') ∧ ReS cols es (addI t (timesI E.2.2 (-c))) (m ++ [(E.1, c)]) false L' := by
  obtain ⟨d, e, f, g, h, i, j⟩ := hS
  obtain ⟨n, rfl⟩ := up hn
  obtain ⟨x, y, z, hs, hq⟩ := codeOf_some ho.2.2.2.2.2
  have hg : getI t E.2.1 = some c := by
    have := hv
    unfold vl at this
    cases q : getI t E.2.1 with
    | none => rw [q] at this; exact absurd this.symm hc
    | some w => rw [q] at this; exact congrArg some this
  have hg2 : lookE (toV t) E.2.1 = some (.int c) := by rw [lookE_toV, hg]; rfl
  have hlead : ∀ q, 100 ≤ q → (Ev.at ft q).call (Str.ofString "_law_lead") [.list (((t.map (·.1)).filter fun k => (getI t k).getD 0 != 0).map V.int), .list (colV cols)] = some (.int E.2.1, false) := by
    intro q hq
    have hmem : ∀ k ∈ k0 :: ks, k ∈ keysAll := by
      intro k hk
      rw [← hl] at hk
      exact htk k (vl_mem (leftK_mem.mp hk))
    have hlen : (k0 :: ks).length ≤ 900 := by
      rw [← hl]
      unfold leftK
      have := List.length_filter_le (fun k => (getI t k).getD 0 != 0) (t.map (·.1))
      rw [List.length_map] at this
      omega
    rw [List.length_cons] at hlen
    rw [show ((t.map (·.1)).filter fun k => (getI t k).getD 0 != 0) = k0 :: ks from hl, lead_eq hq hcol hmem (by first | exact nle (by decide) | omega), hL]
  have hadd1 : ∀ q, 80 ≤ q → (Ev.at ft q).call (Str.ofString "_law_added") [.dict (toV m), .dict [(E.1, .int c)]] = some (.dict (toV (m ++ [(E.1, c)])), false) := by
    intro q hq
    have := added_eq (t := m) (s := [(E.1, c)]) hq hmn (by simp) (by first | exact nle (by decide) | omega) (by simp)
    rw [show addI m [(E.1, c)] = addP m (E.1, c) from rfl, addP_new (p := (E.1, c)) hmq] at this
    exact this
  have htim : ∀ q, 20 ≤ q → (Ev.at ft q).call (Str.ofString "_law_times") [.dict (toV E.2.2), .int (-c)] = some (.dict (toV (timesI E.2.2 (-c))), true) := fun q hq => times_eq hq hf ho.1 (by have := ho.2.2.1; omega)
  have hadd2 : ∀ q, 80 ≤ q → (Ev.at ft q).call (Str.ofString "_law_added") [.dict (toV t), .dict (toV (timesI E.2.2 (-c)))] = some (.dict (toV (addI t (timesI E.2.2 (-c)))), false) := fun q hq => added_eq hq htn (by rw [timesI_keys]; exact ho.1) (by first | exact nle (by decide) | omega) (by rw [timesI_length]; have := ho.2.2.1; omega)
  refine ⟨_, ?_, .mk (some (v, false)) (some (.list (((t.map (·.1)).filter fun k => (getI t k).getD 0 != 0).map V.int), false)) (some (.int E.2.1, false)) (some (.int x, false)) (some (.int y, false)) (some (.int z, false)) (some (.int E.1, false))⟩
  have gen : ∀ A C D B : O, target (scOf "_law_read") (forT (stAt (bdOf "_law_read") 1)) v (reL A B C D d e f g h i j) = some (reL A B C D (some (v, false)) e f g h i j) := fun A C D B => rfl
  rw [lap_eq, gen, Option.bind_some, ls8 (l := forB (stAt (bdOf "_law_read") 1)) rfl, execs_next (re_b0 _ _ _ _ _ _ _ _ _ _ _ (by first | exact nle (by decide) | omega) (by first | exact nle (by decide) | omega)),
    execs_next (re_b1f _ _ _ _ _ _ _ _ _ _ _ (by first | exact nle (by decide) | omega) (by rw [cmp_list_nil, show ((t.map (·.1)).filter fun k => (getI t k).getD 0 != 0) = k0 :: ks from hl]; rfl)),
    execs_next (re_b2 _ _ E.2.1 _ _ _ _ _ _ _ _ _ (by first | exact nle (by decide) | omega) (fun q hq => hlead q (by first | exact nle (by decide) | omega))),
    execs_next (re_b3 E.2.1 x y z _ _ _ _ _ _ _ _ _ _ (by first | exact nle (by decide) | omega) hs),
    execs_next (re_b4 x y z _ _ _ _ _ _ _ _ (by first | exact nle (by decide) | omega)), ← hq,
    execs_next (re_b5 es E.1 _ _ _ _ _ _ _ _ _ _ (by first | exact nle (by decide) | omega) he),
    execs_next (re_b6 (toV t) (.dict (toV m)) b false E.1 E.2.1 (.int c) (.dict (toV (m ++ [(E.1, c)]))) _ _ _ _ _ _ _ (by first | exact nle (by decide) | omega) hg2 (fun q hq => hadd1 q (by first | exact nle (by decide) | omega))),
    execs_next (re_b7 (toV t) es E.1 E.2.1 c (.dict (toV E.2.2)) (.dict (toV (addI t (timesI E.2.2 (-c))))) (.dict (toV (timesI E.2.2 (-c)))) true false _ _ _ _ _ _ _ (by first | exact nle (by decide) | omega) he hg2 (fun q hq => htim q (by first | exact nle (by decide) | omega)) (fun q hq => hadd2 q (by first | exact nle (by decide) | omega))), execs_nil]
noncomputable def tdLen : List (Ent × Int) → Nat
  | [] => 0
  | (e, _) :: r => e.2.2.length + tdLen r
theorem tdLen_c {e : Ent} {c : Int} {r : List (Ent × Int)} : tdLen ((e, c) :: r) = e.2.2.length + tdLen r := rfl
theorem read_laps {n : Nat} {cols : List (Fin 3 × Int)} {es : List (Int × V)} (hn : 130 ≤ n) (hcol : cols ∈ allCols) : ∀ (td : List (Ent × Int)) (t m : List (Int × Int)) (b : Bool) (items : List V) (L : Loc), ReS cols es t m b L →
    (∀ k, vl t k = tdVal td k) → (t.map (·.1)).Nodup → (∀ k ∈ t.map (·.1), k ∈ keysAll) → t.length + tdLen td ≤ 900 → (m.map (·.1)).Nodup → m.length + td.length ≤ 900 → (∀ p ∈ td, p.1.1 ∉ m.map (·.1)) → (td.map (·.1.1)).Nodup →
    (∀ p ∈ td, entOk cols p.1 ∧ lookE es p.1.1 = some (.dict (toV p.1.2.2)) ∧ fits (-p.2) = true) → td.Pairwise (fun p q => rkOf cols p.1.2.1 < rkOf cols q.1.2.1) → td.length < items.length →
    ∃ b' l, forL (lapAt n "_law_read" 1) items L = some (.ret (.dict (toV (m ++ outs td))) b', l)
  | [], t, m, b, items, L, hS, hv, htn, htk, hlen, hmn, hml, hmq, hq, ho, hp, hi => by
    match items, hi with
    | v :: items, hi =>
      have hl : leftK t = [] := by
        rw [List.eq_nil_iff_forall_not_mem]
        intro k hk
        exact leftK_mem.mp hk (hv k)
      obtain ⟨d, e, f, g, h, i, j⟩ := hS
      obtain ⟨l, e1⟩ := re_lapEnd (n := n) (m := .dict (toV m)) (b := b) (v := v) (B := some (.list (colV cols), false)) (C := some (.dict es, false)) d e f g h i j (by first | exact nle (by decide) | omega) (by first | exact nle (by decide) | omega) hl
      exact ⟨b, l, by rw [forL_ret e1, show outs [] = [] from rfl, List.append_nil]⟩
  | (E, c) :: r, t, m, b, items, L, hS, hv, htn, htk, hlen, hmn, hml, hmq, hq, ho, hp, hi => by
    rw [List.map_cons, List.nodup_cons] at hq
    rw [List.pairwise_cons] at hp
    rw [tdLen_c] at hlen
    rw [List.length_cons] at hml hi
    by_cases hc : c = 0
    · subst hc
      obtain ⟨b', l, e1⟩ := read_laps hn hcol r t m b items L hS (fun k => by rw [hv, tdVal_c]; omega) htn htk (by first | exact nle (by decide) | omega) hmn (by first | exact nle (by decide) | omega) (fun p hp => hmq p (.tail _ hp)) hq.2 (fun p hp => ho p (.tail _ hp)) hp.2 (by first | exact nle (by decide) | omega)
      exact ⟨b', l, by rw [e1, outs_c, if_pos rfl]⟩
    · match items, hi with
      | v :: items, hi =>
        obtain ⟨hoE, heE, hfE⟩ := ho _ (.head _)
        obtain ⟨hL, k0, ks, hl, hfold⟩ := left_lead hc hv (fun p hp => (ho p hp).1) hp.1
        have hmqE := hmq _ (.head _)
        obtain ⟨L1, e1, s1⟩ := re_lapGo (n := n) (v := v) (b := b) hS hn hcol (by first | exact nle (by decide) | omega) htn htk (by first | exact nle (by decide) | omega) hmn hmqE hoE heE hfE hL hc hl hfold
        have hkeys : ((timesI E.2.2 (-c)).map (·.1)) = E.2.2.map (·.1) := timesI_keys _ _
        have hnd : ((timesI E.2.2 (-c)).map (·.1)).Nodup := by rw [hkeys]; exact hoE.1
        obtain ⟨b', l, e2⟩ := read_laps hn hcol r (addI t (timesI E.2.2 (-c))) (m ++ [(E.1, c)]) false items L1 s1
          (fun k => by rw [vl_addI k hnd, vl_timesI, hv, tdVal_c, Int.mul_neg, Int.mul_comm c]; omega)
          (addI_nodup htn)
          (fun k hk => by
            rw [addI_keys hnd, List.mem_append, hkeys] at hk
            rcases hk with hk | hk
            · exact htk k hk
            · exact hoE.2.1 k (List.mem_filter.mp hk).1)
          (by have := addI_length (timesI E.2.2 (-c)) t; rw [timesI_length] at this; omega)
          (by
            rw [List.map_append, List.nodup_append]
            refine ⟨hmn, by simp, fun a ha b hb => ?_⟩
            rw [List.map_cons, List.map_nil, List.mem_singleton] at hb
            subst hb
            intro e; exact hmqE (e ▸ ha))
          (by rw [List.length_append, List.length_singleton]; omega)
          (fun p hp => by
            rw [List.map_append, List.mem_append, not_or]
            refine ⟨hmq p (.tail _ hp), fun hh => ?_⟩
            rw [List.map_cons, List.map_nil, List.mem_singleton] at hh
            exact hq.1 (List.mem_map.mpr ⟨p, hp, hh⟩))
          hq.2 (fun p hp => ho p (.tail _ hp)) hp.2 (by simp only [List.length_cons] at hi; omega)
        exact ⟨b', l, by rw [forL_next e1, e2, outs_c, if_neg hc, List.append_assoc]; rfl⟩
theorem read_eq {n : Nat} {cols : List (Fin 3 × Int)} {es : List (Int × V)} {td : List (Ent × Int)} {t : List (Int × Int)} (hn : 150 ≤ n) (hcol : cols ∈ allCols)
    (hv : ∀ k, vl t k = tdVal td k) (htn : (t.map (·.1)).Nodup) (htk : ∀ k ∈ t.map (·.1), k ∈ keysAll) (hlen : t.length + tdLen td ≤ 900) (hq : (td.map (·.1.1)).Nodup)
    (ho : ∀ p ∈ td, entOk cols p.1 ∧ lookE es p.1.1 = some (.dict (toV p.1.2.2)) ∧ fits (-p.2) = true) (hp : td.Pairwise (fun p q => rkOf cols p.1.2.1 < rkOf cols q.1.2.1)) (hes : es.length ≤ 90) (htd : td.length ≤ es.length) :
    ∃ b', (Ev.at ft n).call (Str.ofString "_law_read") [.dict (toV t), .list (colV cols), .dict es] = some (.dict (toV (outs td)), b') := by
  obtain ⟨n, rfl⟩ := up hn
  obtain ⟨b', l, e1⟩ := read_laps (n := n + 146) (cols := cols) (es := es) (by first | exact nle (by decide) | omega) hcol td t [] true (upTo (es.length + 1)) _ (.mk none none none none none none none) hv htn htk hlen (by simp) (by simp; omega) (by simp) hq ho hp (by simp [upTo]; omega)
  refine ⟨b', ?_⟩
  show (Ev.at ft (n + 150)).call (S "_law_read") _ = _
  rw [call_at (g := "_law_read") rfl rfl, ls3 (l := bdOf "_law_read") rfl, re_start, execs_cons, re_0, thn_next, execs_cons, exec_for (rfl : stAt (bdOf "_law_read") 1 = .For _ _ _ [] _) rfl, re_iter _ _ _ _ _ _ _ _ _ _ _ (by first | exact nle (by decide) | omega) hes, Option.bind_some]
  · rw [show lapOf (Ev.at ft (n + 146)) (scOf "_law_read") (forT (stAt (bdOf "_law_read") 1)) (forB (stAt (bdOf "_law_read") 1)) = lapAt (n + 146) "_law_read" 1 from rfl]
    dsimp only
    rw [show (V.dict ([] : List (Int × V))) = .dict (toV []) from rfl, e1, thn_ret, retOf_ret]
    rfl
  · omega
end Mine
end
/-! PuC -/
section
set_option maxRecDepth 100000
set_option linter.unusedVariables false
namespace Mine
open PySem
/-! _law_drawn -/
noncomputable def drL (a0 a1 a2 a3 a4 a5 a6 a7 a8 a9 a10 a11 : O) : Loc := [(Str.ofString "cells", a0), (Str.ofString "powers", a1), (Str.ofString "products", a2), (Str.ofString "taken", a3), (Str.ofString "table", a4), (Str.ofString "total", a5), (Str.ofString "place", a6), (Str.ofString "first", a7), (Str.ofString "second", a8), (Str.ofString "third", a9), (Str.ofString "number", a10), (Str.ofString "code", a11)]
section
variable (a0 a1 a2 a3 a4 a5 a6 a7 a8 a9 a10 a11 p : O)
theorem dr_g0 : getL (drL a0 a1 a2 a3 a4 a5 a6 a7 a8 a9 a10 a11) (Str.ofString "cells") = a0 := by cases a0 <;> rfl
theorem dr_g1 : getL (drL a0 a1 a2 a3 a4 a5 a6 a7 a8 a9 a10 a11) (Str.ofString "powers") = a1 := by cases a1 <;> rfl
theorem dr_g2 : getL (drL a0 a1 a2 a3 a4 a5 a6 a7 a8 a9 a10 a11) (Str.ofString "products") = a2 := by cases a2 <;> rfl
theorem dr_s2 : setL (drL a0 a1 a2 a3 a4 a5 a6 a7 a8 a9 a10 a11) (Str.ofString "products") p = drL a0 a1 p a3 a4 a5 a6 a7 a8 a9 a10 a11 := rfl
theorem dr_g3 : getL (drL a0 a1 a2 a3 a4 a5 a6 a7 a8 a9 a10 a11) (Str.ofString "taken") = a3 := by cases a3 <;> rfl
theorem dr_s3 : setL (drL a0 a1 a2 a3 a4 a5 a6 a7 a8 a9 a10 a11) (Str.ofString "taken") p = drL a0 a1 a2 p a4 a5 a6 a7 a8 a9 a10 a11 := rfl
theorem dr_g4 : getL (drL a0 a1 a2 a3 a4 a5 a6 a7 a8 a9 a10 a11) (Str.ofString "table") = a4 := by cases a4 <;> rfl
theorem dr_s4 : setL (drL a0 a1 a2 a3 a4 a5 a6 a7 a8 a9 a10 a11) (Str.ofString "table") p = drL a0 a1 a2 a3 p a5 a6 a7 a8 a9 a10 a11 := rfl
theorem dr_g5 : getL (drL a0 a1 a2 a3 a4 a5 a6 a7 a8 a9 a10 a11) (Str.ofString "total") = a5 := by cases a5 <;> rfl
theorem dr_g6 : getL (drL a0 a1 a2 a3 a4 a5 a6 a7 a8 a9 a10 a11) (Str.ofString "place") = a6 := by cases a6 <;> rfl
theorem dr_g7 : getL (drL a0 a1 a2 a3 a4 a5 a6 a7 a8 a9 a10 a11) (Str.ofString "first") = a7 := by cases a7 <;> rfl
theorem dr_g8 : getL (drL a0 a1 a2 a3 a4 a5 a6 a7 a8 a9 a10 a11) (Str.ofString "second") = a8 := by cases a8 <;> rfl
theorem dr_g10 : getL (drL a0 a1 a2 a3 a4 a5 a6 a7 a8 a9 a10 a11) (Str.ofString "number") = a10 := by cases a10 <;> rfl
theorem dr_s10 : setL (drL a0 a1 a2 a3 a4 a5 a6 a7 a8 a9 a10 a11) (Str.ofString "number") p = drL a0 a1 a2 a3 a4 a5 a6 a7 a8 a9 p a11 := rfl
theorem dr_g11 : getL (drL a0 a1 a2 a3 a4 a5 a6 a7 a8 a9 a10 a11) (Str.ofString "code") = a11 := by cases a11 <;> rfl
theorem dr_k0 : kindAt (scOf "_law_drawn") (Str.ofString "cells") = some .local := rfl
theorem dr_k1 : kindAt (scOf "_law_drawn") (Str.ofString "powers") = some .local := rfl
theorem dr_k2 : kindAt (scOf "_law_drawn") (Str.ofString "products") = some .local := rfl
theorem dr_k3 : kindAt (scOf "_law_drawn") (Str.ofString "taken") = some .local := rfl
theorem dr_k4 : kindAt (scOf "_law_drawn") (Str.ofString "table") = some .local := rfl
theorem dr_k5 : kindAt (scOf "_law_drawn") (Str.ofString "total") = some .local := rfl
theorem dr_k6 : kindAt (scOf "_law_drawn") (Str.ofString "place") = some .local := rfl
theorem dr_k7 : kindAt (scOf "_law_drawn") (Str.ofString "first") = some .local := rfl
theorem dr_k8 : kindAt (scOf "_law_drawn") (Str.ofString "second") = some .local := rfl
theorem dr_k10 : kindAt (scOf "_law_drawn") (Str.ofString "number") = some .local := rfl
theorem dr_k11 : kindAt (scOf "_law_drawn") (Str.ofString "code") = some .local := rfl
end
theorem dr_p0 (R : Ev) (loc : Loc) (p : Pos) : pk R (scOf "_law_drawn") (.Name (Str.ofString "cells") p) loc = (getL loc (Str.ofString "cells")).map fun q => (q.1, loc) := pk_nm _ _ _ _ _ (by rw [dr_k0]; rfl)
theorem dr_p1 (R : Ev) (loc : Loc) (p : Pos) : pk R (scOf "_law_drawn") (.Name (Str.ofString "powers") p) loc = (getL loc (Str.ofString "powers")).map fun q => (q.1, loc) := pk_nm _ _ _ _ _ (by rw [dr_k1]; rfl)
theorem dr_p2 (R : Ev) (loc : Loc) (p : Pos) : pk R (scOf "_law_drawn") (.Name (Str.ofString "products") p) loc = (getL loc (Str.ofString "products")).map fun q => (q.1, loc) := pk_nm _ _ _ _ _ (by rw [dr_k2]; rfl)
theorem dr_v2 (R : Ev) (loc : Loc) (p : Pos) : val R (scOf "_law_drawn") (.Name (Str.ofString "products") p) loc = (getL loc (Str.ofString "products")).map fun q => (q.1, if q.2 = true then setL loc (Str.ofString "products") (some (q.1, false)) else loc) := val_nm _ _ _ _ _ (by rw [dr_k2]; rfl)
theorem dr_o2 (a0 a1 a3 a4 a5 a6 a7 a8 a9 a10 a11 : O) (v : V) : ownsN (drL a0 a1 (some (v, true)) a3 a4 a5 a6 a7 a8 a9 a10 a11) (Str.ofString "products") = true := rfl
theorem dr_d2 (a0 a1 a3 a4 a5 a6 a7 a8 a9 a10 a11 : O) (es : List (Int × V)) (k : Int) (v : V) : putItem (scOf "_law_drawn") (Str.ofString "products") (.int k) v (drL a0 a1 (some (.dict es, true)) a3 a4 a5 a6 a7 a8 a9 a10 a11) = if small es.length = true then some (drL a0 a1 (some (.dict (storeE es k v), true)) a3 a4 a5 a6 a7 a8 a9 a10 a11) else none := rfl
theorem dr_v3 (R : Ev) (loc : Loc) (p : Pos) : val R (scOf "_law_drawn") (.Name (Str.ofString "taken") p) loc = (getL loc (Str.ofString "taken")).map fun q => (q.1, if q.2 = true then setL loc (Str.ofString "taken") (some (q.1, false)) else loc) := val_nm _ _ _ _ _ (by rw [dr_k3]; rfl)
theorem dr_o3 (a0 a1 a2 a4 a5 a6 a7 a8 a9 a10 a11 : O) (v : V) : ownsN (drL a0 a1 a2 (some (v, true)) a4 a5 a6 a7 a8 a9 a10 a11) (Str.ofString "taken") = true := rfl
theorem dr_d3 (a0 a1 a2 a4 a5 a6 a7 a8 a9 a10 a11 : O) (es : List (Int × V)) (k : Int) (v : V) : putItem (scOf "_law_drawn") (Str.ofString "taken") (.int k) v (drL a0 a1 a2 (some (.dict es, true)) a4 a5 a6 a7 a8 a9 a10 a11) = if small es.length = true then some (drL a0 a1 a2 (some (.dict (storeE es k v), true)) a4 a5 a6 a7 a8 a9 a10 a11) else none := rfl
theorem dr_v4 (R : Ev) (loc : Loc) (p : Pos) : val R (scOf "_law_drawn") (.Name (Str.ofString "table") p) loc = (getL loc (Str.ofString "table")).map fun q => (q.1, if q.2 = true then setL loc (Str.ofString "table") (some (q.1, false)) else loc) := val_nm _ _ _ _ _ (by rw [dr_k4]; rfl)
theorem dr_u4 (a0 a1 a2 a3 a4 a5 a6 a7 a8 a9 a10 a11 : O) (v : V) (b : Bool) : putN (scOf "_law_drawn") (Str.ofString "table") v b (drL a0 a1 a2 a3 a4 a5 a6 a7 a8 a9 a10 a11) = some (drL a0 a1 a2 a3 (some (v, b)) a5 a6 a7 a8 a9 a10 a11) := rfl
theorem dr_p5 (R : Ev) (loc : Loc) (p : Pos) : pk R (scOf "_law_drawn") (.Name (Str.ofString "total") p) loc = (getL loc (Str.ofString "total")).map fun q => (q.1, loc) := pk_nm _ _ _ _ _ (by rw [dr_k5]; rfl)
theorem dr_u5 (a0 a1 a2 a3 a4 a5 a6 a7 a8 a9 a10 a11 : O) (v : V) (b : Bool) : putN (scOf "_law_drawn") (Str.ofString "total") v b (drL a0 a1 a2 a3 a4 a5 a6 a7 a8 a9 a10 a11) = some (drL a0 a1 a2 a3 a4 (some (v, b)) a6 a7 a8 a9 a10 a11) := rfl
theorem dr_p6 (R : Ev) (loc : Loc) (p : Pos) : pk R (scOf "_law_drawn") (.Name (Str.ofString "place") p) loc = (getL loc (Str.ofString "place")).map fun q => (q.1, loc) := pk_nm _ _ _ _ _ (by rw [dr_k6]; rfl)
theorem dr_p7 (R : Ev) (loc : Loc) (p : Pos) : pk R (scOf "_law_drawn") (.Name (Str.ofString "first") p) loc = (getL loc (Str.ofString "first")).map fun q => (q.1, loc) := pk_nm _ _ _ _ _ (by rw [dr_k7]; rfl)
theorem dr_p8 (R : Ev) (loc : Loc) (p : Pos) : pk R (scOf "_law_drawn") (.Name (Str.ofString "second") p) loc = (getL loc (Str.ofString "second")).map fun q => (q.1, loc) := pk_nm _ _ _ _ _ (by rw [dr_k8]; rfl)
theorem dr_p10 (R : Ev) (loc : Loc) (p : Pos) : pk R (scOf "_law_drawn") (.Name (Str.ofString "number") p) loc = (getL loc (Str.ofString "number")).map fun q => (q.1, loc) := pk_nm _ _ _ _ _ (by rw [dr_k10]; rfl)
theorem dr_v10 (R : Ev) (loc : Loc) (p : Pos) : val R (scOf "_law_drawn") (.Name (Str.ofString "number") p) loc = (getL loc (Str.ofString "number")).map fun q => (q.1, if q.2 = true then setL loc (Str.ofString "number") (some (q.1, false)) else loc) := val_nm _ _ _ _ _ (by rw [dr_k10]; rfl)
theorem dr_u10 (a0 a1 a2 a3 a4 a5 a6 a7 a8 a9 a10 a11 : O) (v : V) (b : Bool) : putN (scOf "_law_drawn") (Str.ofString "number") v b (drL a0 a1 a2 a3 a4 a5 a6 a7 a8 a9 a10 a11) = some (drL a0 a1 a2 a3 a4 a5 a6 a7 a8 a9 (some (v, b)) a11) := rfl
theorem dr_p11 (R : Ev) (loc : Loc) (p : Pos) : pk R (scOf "_law_drawn") (.Name (Str.ofString "code") p) loc = (getL loc (Str.ofString "code")).map fun q => (q.1, loc) := pk_nm _ _ _ _ _ (by rw [dr_k11]; rfl)
theorem dr_c__law_product (n : Nat) (loc : Loc) (p q : Pos) (e : Expr) (r : List Expr) : (Ev.at ft (n + 1)).ev (scOf "_law_drawn") (.Call (.Name (Str.ofString "_law_product") p) (e :: r) [] q) loc = (vals (Ev.at ft n) (scOf "_law_drawn") (e :: r) loc).bind fun t => ((Ev.at ft n).call (Str.ofString "_law_product") t.1).bind fun u => some (u.1, u.2, t.2) := v_call _ _ _ _ _ _ _ rfl rfl rfl rfl rfl
theorem dr_c__law_added (n : Nat) (loc : Loc) (p q : Pos) (e : Expr) (r : List Expr) : (Ev.at ft (n + 1)).ev (scOf "_law_drawn") (.Call (.Name (Str.ofString "_law_added") p) (e :: r) [] q) loc = (vals (Ev.at ft n) (scOf "_law_drawn") (e :: r) loc).bind fun t => ((Ev.at ft n).call (Str.ofString "_law_added") t.1).bind fun u => some (u.1, u.2, t.2) := v_call _ _ _ _ _ _ _ rfl rfl rfl rfl rfl
theorem dr_c__law_times (n : Nat) (loc : Loc) (p q : Pos) (e : Expr) (r : List Expr) : (Ev.at ft (n + 1)).ev (scOf "_law_drawn") (.Call (.Name (Str.ofString "_law_times") p) (e :: r) [] q) loc = (vals (Ev.at ft n) (scOf "_law_drawn") (e :: r) loc).bind fun t => ((Ev.at ft n).call (Str.ofString "_law_times") t.1).bind fun u => some (u.1, u.2, t.2) := v_call _ _ _ _ _ _ _ rfl rfl rfl rfl rfl
theorem dr_c_count_calls (n : Nat) (loc : Loc) (p q : Pos) (e : Expr) (r : List Expr) : (Ev.at ft (n + 1)).ev (scOf "_law_drawn") (.Call (.Name (Str.ofString "count_calls") p) (e :: r) [] q) loc = (vals (Ev.at ft n) (scOf "_law_drawn") (e :: r) loc).bind fun t => ((Ev.at ft n).call (Str.ofString "count_calls") t.1).bind fun u => some (u.1, u.2, t.2) := v_call _ _ _ _ _ _ _ rfl rfl rfl rfl rfl
theorem dr_start (x y : V) : fLoc (fdAt "_law_drawn") [x, y] = drL (some (x, false)) (some (y, false)) none none none none none none none none none none := rfl
theorem dr_0 {n : Nat} (a b c d e f g h i j k l : O) (hn : 20 ≤ n) : (Ev.at ft n).exec (scOf "_law_drawn") (stAt (bdOf "_law_drawn") 0) (drL a b c d e f g h i j k l) = some (.next, drL a b (some (.dict [], true)) (some (.dict [], true)) (some (.dict [], true)) (some (.int 0, false)) g h i j k l) := by
  obtain ⟨n, rfl⟩ := up hn
  show (Ev.at ft (n + 20)).exec (scOf "_law_drawn") (.Assign [.Tuple [.Name _ _, .Name _ _, .Name _ _, .Name _ _] _ _] (.Tuple [.Dict [] [] _, .Dict [] [] _, .Dict [] [] _, _] _ _) _) _ = _
  rw [x_tupl]
  · rfl
  · rfl
theorem built_lenL {es : List V} (h : small es.length = true) : builtV "len" [.list es] = some (.int es.length) := by
  show (if small es.length = true then _ else _) = _; rw [if_pos h]
theorem dr_iter {n : Nat} (vs : List V) (a c d e f g h i j k l : O) (hn : 20 ≤ n) (hs : vs.length ≤ 90) : iter (Ev.at ft n) (scOf "_law_drawn") (forI (stAt (bdOf "_law_drawn") 1)) (drL a (some (.list vs, false)) c d e f g h i j k l) = some (upTo vs.length, drL a (some (.list vs, false)) c d e f g h i j k l) := by
  obtain ⟨n, rfl⟩ := up hn
  have e1 : iter (Ev.at ft (n + 20)) (scOf "_law_drawn") (forI (stAt (bdOf "_law_drawn") 1)) (drL a (some (.list vs, false)) c d e f g h i j k l) = (((builtV "len" [.list vs]).bind fun v => some (v, false, drL a (some (.list vs, false)) c d e f g h i j k l)).map fun x => (x.1, x.2.2)).bind fun p => match p.1 with
    | .int n => if (decide (0 ≤ n) && decide (n ≤ 100)) = true then some (upTo n.toNat, p.2) else none
    | _ => none := rfl
  rw [e1, built_lenL (small_of (by first | exact nle (by decide) | omega))]
  show (if (decide (0 ≤ (vs.length : Int)) && decide ((vs.length : Int) ≤ 100)) = true then some (upTo ((vs.length : Int)).toNat, drL a (some (.list vs, false)) c d e f g h i j k l) else none) = _
  rw [if_pos (by rw [decide_eq_true (by first | exact nle (by decide) | omega), decide_eq_true (by first | exact nle (by decide) | omega)]; rfl), show ((vs.length : Int)).toNat = vs.length by omega]
theorem dr_b0 {n : Nat} (vs : List V) (p x y z : Int) (a c d e f h i j k l : O) (hn : 20 ≤ n) (hi : itemV (.list vs) (.int p) = some (.tup [.int x, .int y, .int z])) : (Ev.at ft n).exec (scOf "_law_drawn") (stAt (forB (stAt (bdOf "_law_drawn") 1)) 0) (drL a (some (.list vs, false)) c d e f (some (.int p, false)) h i j k l) = some (.next, drL a (some (.list vs, false)) c d e f (some (.int p, false)) (some (.int x, false)) (some (.int y, false)) (some (.int z, false)) k l) := by
  obtain ⟨n, rfl⟩ := up hn
  have e1 : (Ev.at ft (n + 20)).exec (scOf "_law_drawn") (stAt (forB (stAt (bdOf "_law_drawn") 1)) 0) (drL a (some (.list vs, false)) c d e f (some (.int p, false)) h i j k l) = (((itemV (.list vs) (.int p)).bind fun r => some (r, false, drL a (some (.list vs, false)) c d e f (some (.int p, false)) h i j k l)).map fun x => (x.1, x.2.2)).bind fun t => (itemsOf t.1).bind fun us => (putNs (scOf "_law_drawn") (asgTs (stAt (forB (stAt (bdOf "_law_drawn") 1)) 0)) (us.map fun v => (v, false)) t.2).bind fun l => some (.next, l) := rfl
  rw [e1, hi]
  rfl
noncomputable def nmOf (y : Int) : Int := (y - 9) * (1 - 2 * y.fmod 2)
theorem sub_ok (a b : Int) : binV .Sub (.int a) (.int b) = some (.int (a - b)) := rfl
theorem add_ok (a b : Int) : binV .Add (.int a) (.int b) = some (.int (a + b)) := rfl
theorem dr_b1 {n : Nat} (cs : List V) (p y : Int) (b c d e f h i j k l : O) (hn : 30 ≤ n) (hi : itemV (.list cs) (.int p) = some (.int y)) (hf : fits (y - 9) = true) : (Ev.at ft n).exec (scOf "_law_drawn") (stAt (forB (stAt (bdOf "_law_drawn") 1)) 1) (drL (some (.list cs, false)) b c d e f (some (.int p, false)) h i j k l) = some (.next, drL (some (.list cs, false)) b c d e f (some (.int p, false)) h i j (some (.int (nmOf y), false)) l) := by
  obtain ⟨n, rfl⟩ := up hn
  have e1 : ∀ a : Int, binV .Mult (.int 2) (.int a) = some (.int (2 * a)) := fun a => mul_l (by decide)
  have e2 : ∀ a : Int, binV .Mult (.int (y - 9)) (.int a) = some (.int ((y - 9) * a)) := fun a => mul_l hf
  show (Ev.at ft (n + 30)).exec (scOf "_law_drawn") (.Assign [.Name _ _] (.BinOp (.BinOp (.Subscript (.Name _ _) (.Name _ _) _) .Sub _ _) .Mult (.BinOp _ .Sub (.BinOp _ .Mult (.BinOp (.Subscript (.Name _ _) (.Name _ _) _) .Mod _ _) _) _) _) _) _ = _
  simp only [pk_Constant, pk_BinOp, pk_Subscript, vi_nm, v_int, v_bin, x_asg, Option.map_some, Option.bind_some, dr_g0, dr_g6, dr_p0, dr_p6, dr_u10, hi, sub_ok, mod_ok (show (2 : Int) ≠ 0 by decide), e1, e2]
  rfl
theorem dr_b2 {n : Nat} (x y z : Int) (a b c d e f g k l : O) (hn : 30 ≤ n) : (Ev.at ft n).exec (scOf "_law_drawn") (stAt (forB (stAt (bdOf "_law_drawn") 1)) 2) (drL a b c d e f g (some (.int x, false)) (some (.int y, false)) (some (.int z, false)) k l) = some (.next, drL a b c d e f g (some (.int x, false)) (some (.int y, false)) (some (.int z, false)) k (some (.int (100 * x + 10 * y + z), false))) := by
  obtain ⟨n, rfl⟩ := up hn
  rfl
theorem dr_b3 {n : Nat} (vs : List V) (es : List (Int × V)) (p q : Int) (v w : V) (o : Bool) (a d e f h i j k : O) (hi : itemV (.list vs) (.int p) = some v) (hc : (Ev.at ft (n + 28)).call (Str.ofString "_law_product") [v] = some (w, o)) (hs : small es.length = true) : (Ev.at ft (n + 30)).exec (scOf "_law_drawn") (stAt (forB (stAt (bdOf "_law_drawn") 1)) 3) (drL a (some (.list vs, false)) (some (.dict es, true)) d e f (some (.int p, false)) h i j k (some (.int q, false))) = some (.next, drL a (some (.list vs, false)) (some (.dict (storeE es q w), true)) d e f (some (.int p, false)) h i j k (some (.int q, false))) := by
  show (Ev.at ft (n + 30)).exec (scOf "_law_drawn") (.Assign [.Subscript (.Name _ _) (.Name _ _) _] (.Call _ [.Subscript (.Name _ _) (.Name _ _) _] [] _) _) _ = _
  simp only [val_Call, val_Subscript, vi_nm, x_sub, Option.map_some, Option.bind_some, vals_nil, vals_cons, Option.bind_eq_bind, dr_g1, dr_g6, dr_g11, dr_p1, dr_o2, dr_d2, dr_p6, dr_p11, dr_c__law_product, hi, hc, hs, if_true]
theorem dr_b4 {n : Nat} (es w : List (Int × V)) (q : Int) (a b d e f g h i j k : O) (o : Bool) (hn : 30 ≤ n) (hq : lookE es q = some (.dict w)) : (Ev.at ft n).exec (scOf "_law_drawn") (stAt (forB (stAt (bdOf "_law_drawn") 1)) 4) (drL a b (some (.dict es, o)) d e f g h i j k (some (.int q, false))) = some (.next, drL a b (some (.dict es, o)) d e f g h i j k (some (.int q, false))) := by
  obtain ⟨n, rfl⟩ := up hn
  have e1 : (Ev.at ft (n + 29)).tst (scOf "_law_drawn") (ifT (stAt (forB (stAt (bdOf "_law_drawn") 1)) 4)) (drL a b (some (.dict es, o)) d e f g h i j k (some (.int q, false))) = (((lookE es q).bind fun r => some (r, false, drL a b (some (.dict es, o)) d e f g h i j k (some (.int q, false)))).map fun x => (x.1, x.2.2)).bind fun t => (cmpV .Is t.1 .none).bind fun v => some (v, t.2) := rfl
  rw [hq] at e1
  rw [exec_if_f (rfl : stAt (forB (stAt (bdOf "_law_drawn") 1)) 4 = .If _ _ _ _) e1]; rfl
theorem dr_b5t {n : Nat} (tk : List (Int × V)) (q x : Int) (a b c e f g h i j : O) (hn : 30 ≤ n) (hx : x ≠ 0) (hs : small tk.length = true) : (Ev.at ft n).exec (scOf "_law_drawn") (stAt (forB (stAt (bdOf "_law_drawn") 1)) 5) (drL a b c (some (.dict tk, true)) e f g h i j (some (.int x, false)) (some (.int q, false))) = some (.next, drL a b c (some (.dict (storeE tk q (.int x)), true)) e f g h i j (some (.int x, false)) (some (.int q, false))) := by
  obtain ⟨n, rfl⟩ := up hn
  have e1 : (Ev.at ft (n + 29)).tst (scOf "_law_drawn") (ifT (stAt (forB (stAt (bdOf "_law_drawn") 1)) 5)) (drL a b c (some (.dict tk, true)) e f g h i j (some (.int x, false)) (some (.int q, false))) = some (x != 0, drL a b c (some (.dict tk, true)) e f g h i j (some (.int x, false)) (some (.int q, false))) := rfl
  rw [show (x != 0) = true by simpa using hx] at e1
  rw [exec_if_t (rfl : stAt (forB (stAt (bdOf "_law_drawn") 1)) 5 = .If _ _ _ _) e1]
  have e2 : (Ev.at ft (n + 28)).exec (scOf "_law_drawn") (stAt (ifA (stAt (forB (stAt (bdOf "_law_drawn") 1)) 5)) 0) (drL a b c (some (.dict tk, true)) e f g h i j (some (.int x, false)) (some (.int q, false))) = some (.next, drL a b c (some (.dict (storeE tk q (.int x)), true)) e f g h i j (some (.int x, false)) (some (.int q, false))) := by
    show (Ev.at ft (n + 28)).exec (scOf "_law_drawn") (.Assign [.Subscript (.Name _ _) (.Name _ _) _] (.Name _ _) _) _ = _
    simp only [x_sub, Option.map_some, Option.bind_some, dr_g10, dr_s10, dr_g11, dr_o3, dr_d3, dr_v10, dr_p11, hs, if_true, Bool.false_eq_true, if_false]
  rw [ls1 (l := ifA (stAt (forB (stAt (bdOf "_law_drawn") 1)) 5)) rfl, execs_next (e2), execs_nil]
theorem dr_b5f {n : Nat} (tk : V) (o : Bool) (q : Int) (a b c e f g h i j : O) (hn : 30 ≤ n) : (Ev.at ft n).exec (scOf "_law_drawn") (stAt (forB (stAt (bdOf "_law_drawn") 1)) 5) (drL a b c (some (tk, o)) e f g h i j (some (.int 0, false)) (some (.int q, false))) = some (.next, drL a b c (some (tk, o)) e f g h i j (some (.int 0, false)) (some (.int q, false))) := by
  obtain ⟨n, rfl⟩ := up hn
  rfl
theorem dr_b6 {n : Nat} (es : List (Int × V)) (q x : Int) (t p r w : V) (o o1 o2 : Bool) (a b d f g h i j : O) (hn : 30 ≤ n) (hq : lookE es q = some p) (hw : ∀ k, n ≤ k + 25 → (Ev.at ft k).call (Str.ofString "_law_times") [p, .int x] = some (w, o1)) (hr : ∀ k, n ≤ k + 25 → (Ev.at ft k).call (Str.ofString "_law_added") [t, w] = some (r, o2)) : (Ev.at ft n).exec (scOf "_law_drawn") (stAt (forB (stAt (bdOf "_law_drawn") 1)) 6) (drL a b (some (.dict es, true)) d (some (t, o)) f g h i j (some (.int x, false)) (some (.int q, false))) = some (.next, drL a b (some (.dict es, true)) d (some (r, o2)) f g h i j (some (.int x, false)) (some (.int q, false))) := by
  obtain ⟨n, rfl⟩ := up hn
  have hj : itemV (.dict es) (.int q) = some p := hq
  have hr := hr (n + 28) (by first | exact nle (by decide) | omega)
  have hw1 := hw (n + 27) (by first | exact nle (by decide) | omega)
  show (Ev.at ft (n + 30)).exec (scOf "_law_drawn") (.Assign [.Name _ _] (.Call _ [.Name _ _, .Call _ [.Subscript (.Name _ _) (.Name _ _) _, .Name _ _] [] _] [] _) _) _ = _
  cases o <;> simp only [val_Call, val_Subscript, vi_nm, x_asg, Option.map_some, Option.bind_some, vals_nil, vals_cons, Option.bind_eq_bind, dr_g2, dr_g4, dr_s4, dr_g10, dr_s10, dr_g11, dr_p2, dr_v4, dr_u4, dr_v10, dr_p11, dr_c__law_added, dr_c__law_times, hj, hr, hw1, Bool.false_eq_true, if_false, if_true]
theorem pow3_ok {e : Int} (h0 : 0 ≤ e) (h1 : e ≤ 100) : binV .Pow (.int 3) (.int e) = some (.int (3 ^ e.toNat)) := by
  show (if (fits 3 && decide (0 ≤ e) && decide (e ≤ 100)) = true then _ else _) = _
  rw [if_pos (by rw [decide_eq_true h0, decide_eq_true h1]; rfl)]
theorem dr_b7 {n : Nat} (x y w s : Int) (a b c d e g j l : O) (hn : 30 ≤ n) (hf : fits w = true) (h0 : 0 ≤ x + y) (h1 : x + y ≤ 100) : (Ev.at ft n).exec (scOf "_law_drawn") (stAt (forB (stAt (bdOf "_law_drawn") 1)) 7) (drL a b c d e (some (.int s, false)) g (some (.int x, false)) (some (.int y, false)) j (some (.int w, false)) l) = some (.next, drL a b c d e (some (.int (s + w * 3 ^ (x + y).toNat), false)) g (some (.int x, false)) (some (.int y, false)) j (some (.int w, false)) l) := by
  obtain ⟨n, rfl⟩ := up hn
  have e2 : ∀ a : Int, binV .Mult (.int w) (.int a) = some (.int (w * a)) := fun a => mul_l hf
  show (Ev.at ft (n + 30)).exec (scOf "_law_drawn") (.AugAssign (.Name _ _) .Add (.BinOp (.Name _ _) .Mult (.BinOp _ .Pow (.BinOp (.Name _ _) .Add (.Name _ _) _) _) _) _) _ = _
  rw [x_augn _ _ _ _ _ _ _ dr_k5 (dr_g5 ..)]
  simp only [pk_Constant, pk_BinOp, v_int, v_bin, Option.map_some, Option.bind_some, dr_g7, dr_g8, dr_g10, dr_u5, dr_p7, dr_p8, dr_p10, add_ok, pow3_ok h0 h1, e2]
end Mine
end
/-! PuD -/
section
set_option maxRecDepth 100000
set_option linter.unusedVariables false
namespace Mine
open PySem
noncomputable abbrev Dn := (Int × Int × Int) × List (Int × Int) × Int
noncomputable def pwV (p : Int × Int × Int) : V := .tup [.int p.1, .int p.2.1, .int p.2.2]
noncomputable def cd (p : Int × Int × Int) : Int := 100 * p.1 + 10 * p.2.1 + p.2.2
noncomputable def prV (rest : List Dn) : List (Int × V) := rest.map fun r => (cd r.1, .dict (toV r.2.1))
noncomputable def tabR (tb : List (Int × Int)) (rest : List Dn) : List (Int × Int) := rest.foldl (fun t r => addI t (timesI r.2.1 r.2.2)) tb
noncomputable def totR : List Dn → Int
  | [] => 0
  | r :: rs => r.2.2 * 3 ^ (r.1.1 + r.1.2.1).toNat + totR rs
noncomputable def tkR : List Dn → List (Int × Int)
  | [] => []
  | r :: rs => if r.2.2 = 0 then tkR rs else (cd r.1, r.2.2) :: tkR rs
noncomputable def lenR : List Dn → Nat
  | [] => 0
  | r :: rs => r.2.1.length + lenR rs
noncomputable def itemsFrom : Nat → Nat → List V
  | _, 0 => []
  | j, m + 1 => .int (j : Int) :: itemsFrom (j + 1) m
theorem tkR_c {r : Dn} {rs : List Dn} : tkR (r :: rs) = if r.2.2 = 0 then tkR rs else (cd r.1, r.2.2) :: tkR rs := rfl
theorem totR_c {r : Dn} {rs : List Dn} : totR (r :: rs) = r.2.2 * 3 ^ (r.1.1 + r.1.2.1).toNat + totR rs := rfl
theorem lenR_c {r : Dn} {rs : List Dn} : lenR (r :: rs) = r.2.1.length + lenR rs := rfl
theorem itemsFrom_c {j m : Nat} : itemsFrom j (m + 1) = .int (j : Int) :: itemsFrom (j + 1) m := rfl
theorem upTo_from (m : Nat) : upTo m = itemsFrom 0 m := by
  have : ∀ (m j : Nat), (List.range' j m).map (fun (i : Nat) => V.int (i : Int)) = itemsFrom j m := by
    intro m
    induction m with
    | zero => intro j; rfl
    | succ m ih => intro j; rw [List.range'_succ, List.map_cons, ih]; rfl
  rw [upTo, List.range_eq_range', this]
theorem storeE_app : ∀ {l : List (Int × V)} {k : Int} {v : V}, k ∉ l.map (·.1) → storeE l k v = l ++ [(k, v)]
  | [], k, v, _ => rfl
  | (a, b) :: l, k, v, h => by
    rw [List.map_cons, List.mem_cons, not_or] at h
    rw [storeE, if_neg (fun e => h.1 e.symm), storeE_app h.2]; rfl
theorem lookE_app : ∀ {l : List (Int × V)} {k : Int} {v : V}, k ∉ l.map (·.1) → lookE (l ++ [(k, v)]) k = some v
  | [], k, v, _ => by rw [List.nil_append, lookE, if_pos rfl]
  | (a, b) :: l, k, v, h => by
    rw [List.map_cons, List.mem_cons, not_or] at h
    rw [List.cons_append, lookE, if_neg (fun e => h.1 e.symm), lookE_app h.2]
/-- a lap's facts; lv: the level of the call of _law_product -/
noncomputable def lapFit (lv : Nat) (cs vs : List V) (j : Nat) (r : Dn) : Prop :=
  itemV (.list vs) (.int (j : Int)) = some (pwV r.1) ∧ (∃ y, itemV (.list cs) (.int (j : Int)) = some (.int y) ∧ nmOf y = r.2.2 ∧ fits (y - 9) = true) ∧ fits r.2.2 = true ∧
  (∃ o, (Ev.at ft lv).call (Str.ofString "_law_product") [pwV r.1] = some (.dict (toV r.2.1), o)) ∧
  (r.2.1.map (·.1)).Nodup ∧ r.2.1.length ≤ 100 ∧ 0 ≤ r.1.1 + r.1.2.1 ∧ r.1.1 + r.1.2.1 ≤ 100
/-- the frame of _law_drawn between two laps -/
inductive DrS (cs vs : List V) (es : List (Int × V)) (tk tb : List (Int × Int)) (tot : Int) : Loc → Prop
  | mk (o : Bool) (g h i p k l : O) : DrS cs vs es tk tb tot (drL (some (.list cs, false)) (some (.list vs, false)) (some (.dict es, true)) (some (.dict (toV tk), true)) (some (.dict (toV tb), o)) (some (.int tot, false)) g h i p k l)
theorem dr_lap {n : Nat} {cs vs : List V} {j : Nat} {r : Dn} {es : List (Int × V)} {tk tb : List (Int × Int)} {tot : Int} {L : Loc} (hL : DrS cs vs es tk tb tot L) (hf : lapFit (n + 124) cs vs j r) (h1 : cd r.1 ∉ es.map (·.1)) (h2 : cd r.1 ∉ tk.map (·.1)) (hes : es.length ≤ 900) (htk : tk.length ≤ 900) (htb : tb.length ≤ 900) (hn : (tb.map (·.1)).Nodup) :
    ∃ L', lapAt (n + 130) "_law_drawn" 1 (.int (j : Int)) L = some (.next, L') ∧ DrS cs vs (es ++ [(cd r.1, .dict (toV r.2.1))]) (tk ++ tkR [r]) (addI tb (timesI r.2.1 r.2.2)) (tot + r.2.2 * 3 ^ (r.1.1 + r.1.2.1).toNat) L' := by
  obtain ⟨o, g, h, i, p, k, l⟩ := hL
  obtain ⟨⟨x, y, z⟩, P, w⟩ := r
  obtain ⟨f1, ⟨c, f2, f3, f4⟩, f5, ⟨o2, f6⟩, f7, f8, f9, f10⟩ := hf
  dsimp only at *
  have hes' : lookE (storeE es (cd (x, y, z)) (.dict (toV P))) (cd (x, y, z)) = some (.dict (toV P)) := by rw [storeE_app h1, lookE_app h1]
  have htim : ∀ q, 20 ≤ q → (Ev.at ft q).call (Str.ofString "_law_times") [.dict (toV P), .int w] = some (.dict (toV (timesI P w)), true) := fun q hq => times_eq hq f5 f7 (by first | exact nle (by decide) | omega)
  have hadd2 : ∀ q, 80 ≤ q → (Ev.at ft q).call (Str.ofString "_law_added") [.dict (toV tb), .dict (toV (timesI P w))] = some (.dict (toV (addI tb (timesI P w))), false) := fun q hq => added_eq hq hn (by rw [timesI_keys]; exact f7) (by first | exact nle (by decide) | omega) (by rw [timesI_length]; omega)
  refine ⟨_, ?_, .mk false (some (.int (j : Int), false)) (some (.int x, false)) (some (.int y, false)) (some (.int z, false)) (some (.int w, false)) (some (.int (cd (x, y, z)), false))⟩
  have gen : ∀ A B C D E F : O, target (scOf "_law_drawn") (forT (stAt (bdOf "_law_drawn") 1)) (.int (j : Int)) (drL A B C D E F g h i p k l) = some (drL A B C D E F (some (.int (j : Int), false)) h i p k l) := fun A B C D E F => rfl
  have e5 : ∀ (A B E F G H I J : O), (Ev.at ft (n + 124)).exec (scOf "_law_drawn") (stAt (forB (stAt (bdOf "_law_drawn") 1)) 5) (drL A B (some (.dict (storeE es (cd (x, y, z)) (.dict (toV P))), true)) (some (.dict (toV tk), true)) E F G H I J (some (.int w, false)) (some (.int (cd (x, y, z)), false))) = some (.next, drL A B (some (.dict (storeE es (cd (x, y, z)) (.dict (toV P))), true)) (some (.dict (toV (tk ++ tkR [((x, y, z), P, w)])), true)) E F G H I J (some (.int w, false)) (some (.int (cd (x, y, z)), false))) := by
    intro A B E F G H I J
    by_cases hw : w = 0
    · subst hw
      rw [dr_b5f _ _ _ _ _ _ _ _ _ _ _ _ (by first | exact nle (by decide) | omega), show tkR [((x, y, z), P, (0 : Int))] = [] from rfl, List.append_nil]
    · rw [dr_b5t _ _ _ _ _ _ _ _ _ _ _ _ (by first | exact nle (by decide) | omega) hw (small_of (by rw [toV_len]; omega)), storeE_toV, putI_new h2, show tkR [((x, y, z), P, w)] = [(cd (x, y, z), w)] from if_neg hw]
  rw [lap_eq, gen, Option.bind_some, ls8 (l := forB (stAt (bdOf "_law_drawn") 1)) rfl,
    execs_next (dr_b0 vs j x y z _ _ _ _ _ _ _ _ _ _ (by first | exact nle (by decide) | omega) f1),
    execs_next (dr_b1 cs j c _ _ _ _ _ _ _ _ _ _ (by first | exact nle (by decide) | omega) f2 f4), f3,
    execs_next (dr_b2 x y z _ _ _ _ _ _ _ _ _ (by first | exact nle (by decide) | omega)), show 100 * x + 10 * y + z = cd (x, y, z) from rfl,
    execs_next (dr_b3 (n := n + 96) vs es j _ _ _ o2 _ _ _ _ _ _ _ _ f1 f6 (small_of (by first | exact nle (by decide) | omega))),
    execs_next (dr_b4 _ (toV P) _ _ _ _ _ _ _ _ _ _ _ _ (by first | exact nle (by decide) | omega) hes'),
    execs_next (e5 _ _ _ _ _ _ _ _),
    execs_next (dr_b6 _ _ w (.dict (toV tb)) (.dict (toV P)) (.dict (toV (addI tb (timesI P w)))) (.dict (toV (timesI P w))) _ true false _ _ _ _ _ _ _ _ (by first | exact nle (by decide) | omega) hes' (fun q hq => htim q (by first | exact nle (by decide) | omega)) (fun q hq => hadd2 q (by first | exact nle (by decide) | omega))),
    execs_next (dr_b7 x y w tot _ _ _ _ _ _ _ _ (by first | exact nle (by decide) | omega) f5 f9 f10), execs_nil, storeE_app h1]
theorem tkR_keys : ∀ (rest : List Dn) (k : Int), k ∈ (tkR rest).map (·.1) → k ∈ rest.map fun r => cd r.1
  | [], k, h => h
  | r :: rs, k, h => by
    rw [tkR_c] at h
    rw [List.map_cons, List.mem_cons]
    split at h
    · exact .inr (tkR_keys rs k h)
    · rw [List.map_cons, List.mem_cons] at h
      rcases h with h | h
      · exact .inl h
      · exact .inr (tkR_keys rs k h)
theorem tkR_length : ∀ rest : List Dn, (tkR rest).length ≤ rest.length
  | [] => Nat.le_refl _
  | r :: rs => by
    have := tkR_length rs
    rw [tkR_c]
    split <;> simp only [List.length_cons] <;> omega
theorem tkR_cons (r : Dn) (rs : List Dn) : tkR (r :: rs) = tkR [r] ++ tkR rs := by
  rw [tkR_c, tkR_c]
  split <;> rfl
theorem dr_laps {n : Nat} {cs vs : List V} : ∀ (rest : List Dn) (j : Nat) (es : List (Int × V)) (tk tb : List (Int × Int)) (tot : Int) (L : Loc), DrS cs vs es tk tb tot L →
    (∀ i r, rest[i]? = some r → lapFit (n + 124) cs vs (j + i) r) → (rest.map fun r => cd r.1).Nodup → (∀ r ∈ rest, cd r.1 ∉ es.map (·.1)) → (∀ r ∈ rest, cd r.1 ∉ tk.map (·.1)) → es.length + rest.length ≤ 900 → tk.length + rest.length ≤ 900 → tb.length + lenR rest ≤ 900 → (tb.map (·.1)).Nodup →
    ∃ L', forL (lapAt (n + 130) "_law_drawn" 1) (itemsFrom j rest.length) L = some (.next, L') ∧ DrS cs vs (es ++ prV rest) (tk ++ tkR rest) (tabR tb rest) (tot + totR rest) L'
  | [], j, es, tk, tb, tot, L, hL, hf, hnd, h1, h2, hes, htk, htb, hn => ⟨L, rfl, by rw [prV, List.map_nil, List.append_nil, show tkR [] = [] from rfl, List.append_nil, show totR [] = 0 from rfl, Int.add_zero]; exact hL⟩
  | r :: rs, j, es, tk, tb, tot, L, hL, hf, hnd, h1, h2, hes, htk, htb, hn => by
    rw [List.map_cons, List.nodup_cons] at hnd
    rw [List.length_cons] at hes htk
    rw [lenR_c] at htb
    have hf0 : lapFit (n + 124) cs vs j r := hf 0 r rfl
    obtain ⟨L1, e1, s1⟩ := dr_lap hL hf0 (h1 _ (.head _)) (h2 _ (.head _)) (by first | exact nle (by decide) | omega) (by first | exact nle (by decide) | omega) (by first | exact nle (by decide) | omega) hn
    have hr1 : (tkR [r]).length ≤ 1 := tkR_length [r]
    obtain ⟨L2, e2, s2⟩ := dr_laps rs (j + 1) _ _ _ _ L1 s1
      (fun i q hq => by
        have := hf (i + 1) q hq
        rw [show j + 1 + i = j + (i + 1) by omega]; exact this)
      hnd.2
      (fun q hq => by
        rw [List.map_append, List.mem_append, not_or]
        refine ⟨h1 q (.tail _ hq), fun hh => ?_⟩
        rw [List.map_cons, List.map_nil, List.mem_singleton] at hh
        exact hnd.1 (List.mem_map.mpr ⟨q, hq, hh⟩))
      (fun q hq => by
        rw [List.map_append, List.mem_append, not_or]
        refine ⟨h2 q (.tail _ hq), fun hh => ?_⟩
        have := tkR_keys [r] _ hh
        rw [List.map_cons, List.map_nil, List.mem_singleton] at this
        exact hnd.1 (List.mem_map.mpr ⟨q, hq, this⟩))
      (by rw [List.length_append, List.length_singleton]; omega)
      (by rw [List.length_append]; omega)
      (by have := addI_length (timesI r.2.1 r.2.2) tb; rw [timesI_length] at this; omega)
      (addI_nodup hn)
    refine ⟨L2, by rw [List.length_cons, itemsFrom_c, forL_next e1, e2], ?_⟩
    rw [tkR_cons r rs, ← List.append_assoc, totR_c, ← Int.add_assoc, show es ++ prV (r :: rs) = es ++ [(cd r.1, .dict (toV r.2.1))] ++ prV rs by rw [List.append_assoc]; rfl]
    exact s2
theorem isdict_ret (a b c : V) : small [a, b, c].length = true := rfl
theorem cmp_eq_int (a b : Int) : cmpV .Eq (.int a) (.int b) = some (a == b) := rfl
theorem dr_end {n : Nat} (es : V) (tk : V) (tb : V) (tot : Int) (o : Bool) (a b g h i p k l : O) (hn : 40 ≤ n) (hc : ∀ m, n ≤ m + 20 → (Ev.at ft m).call (Str.ofString "count_calls") [tb] = some (.int tot, false)) : ∃ L, (Ev.at ft n).execs (scOf "_law_drawn") [stAt (bdOf "_law_drawn") 2] (drL a b (some (es, true)) (some (tk, true)) (some (tb, o)) (some (.int tot, false)) g h i p k l) = some (.ret (.tup [es, tk, tb]) false, L) := by
  obtain ⟨n, rfl⟩ := up hn
  refine ⟨drL a b (some (es, false)) (some (tk, false)) (some (tb, false)) (some (.int tot, false)) g h i p k l, ?_⟩
  have hc1 := hc (n + 34) (by first | exact nle (by decide) | omega)
  have hc2 := hc (n + 35) (by first | exact nle (by decide) | omega)
  have hc3 := hc (n + 36) (by first | exact nle (by decide) | omega)
  have h : (Ev.at ft (n + 39)).exec (scOf "_law_drawn") (stAt (bdOf "_law_drawn") 2) (drL a b (some (es, true)) (some (tk, true)) (some (tb, o)) (some (.int tot, false)) g h i p k l) = some (.ret (.tup [es, tk, tb]) false, drL a b (some (es, false)) (some (tk, false)) (some (tb, false)) (some (.int tot, false)) g h i p k l) := by
    show (Ev.at ft (n + 39)).exec (scOf "_law_drawn") (.Return (some (.IfExp (.Compare (.Call _ [.Name _ _] [] _) [.Eq] [.Name _ _] _) (.Tuple [.Name _ _, .Name _ _, .Name _ _] _ _) _ _)) _) _ = _
    cases o <;> simp only [pk_Call, v_none, v_if, v_tup, x_ret, t_cmp, Option.map_some, Option.bind_some, vals_nil, vals_cons, Option.bind_eq_bind, dr_g2, dr_s2, dr_g3, dr_s3, dr_g4, dr_s4, dr_g5, dr_v2, dr_v3, dr_v4, dr_p5, dr_c_count_calls, hc2, cmp_eq_int, beq_self_eq_true, isdict_ret, if_true, Bool.false_eq_true, if_false]
  rw [execs_done (h)]
theorem tabR_nodup : ∀ (rest : List Dn) (tb : List (Int × Int)), (tb.map (·.1)).Nodup → ((tabR tb rest).map (·.1)).Nodup
  | [], tb, h => h
  | r :: rs, tb, h => tabR_nodup rs _ (addI_nodup h)
theorem tabR_length : ∀ (rest : List Dn) (tb : List (Int × Int)), (tabR tb rest).length ≤ tb.length + lenR rest
  | [], tb => Nat.le_refl _
  | r :: rs, tb => by
    have h1 := tabR_length rs (addI tb (timesI r.2.1 r.2.2))
    have h2 := addI_length (timesI r.2.1 r.2.2) tb
    rw [timesI_length] at h2
    rw [lenR_c]
    show (tabR (addI tb (timesI r.2.1 r.2.2)) rs).length ≤ _
    omega
theorem sum_putI : ∀ (l : List (Int × Int)) (k v : Int), ((putI l k v).map (·.2)).sum = (l.map (·.2)).sum + v - (getI l k).getD 0
  | [], k, v => by simp [putI, getI]
  | (a, b) :: l, k, v => by
    rw [putI, getI]
    split
    · simp only [List.map_cons, List.sum_cons, Option.getD_some]; omega
    · simp only [List.map_cons, List.sum_cons, sum_putI l k v]; omega
theorem sum_addP (t : List (Int × Int)) (p : Int × Int) : ((addP t p).map (·.2)).sum = (t.map (·.2)).sum + p.2 := by
  unfold addP
  rw [sum_putI]
  cases getI t p.1 <;> simp <;> omega
theorem sum_addI : ∀ (s t : List (Int × Int)), ((addI t s).map (·.2)).sum = (t.map (·.2)).sum + (s.map (·.2)).sum
  | [], t => by simp [addI]
  | p :: s, t => by
    have := sum_addI s (addP t p)
    rw [sum_addP] at this
    rw [List.map_cons, List.sum_cons]
    show ((addI (addP t p) s).map (·.2)).sum = _
    omega
theorem sum_timesI : ∀ (l : List (Int × Int)) (m : Int), ((timesI l m).map (·.2)).sum = m * (l.map (·.2)).sum
  | [], m => by simp [timesI]
  | (a, b) :: l, m => by
    have ih := sum_timesI l m
    simp only [timesI, List.map_cons, List.sum_cons] at ih ⊢
    rw [ih, Int.mul_add, Int.mul_comm b]
theorem sum_tabR : ∀ (rest : List Dn) (tb : List (Int × Int)), (∀ r ∈ rest, (r.2.1.map (·.2)).sum = 3 ^ (r.1.1 + r.1.2.1).toNat) → ((tabR tb rest).map (·.2)).sum = (tb.map (·.2)).sum + totR rest
  | [], tb, _ => by rw [show totR [] = 0 from rfl]; show (tb.map (·.2)).sum = _; omega
  | r :: rs, tb, h => by
    have ih := sum_tabR rs (addI tb (timesI r.2.1 r.2.2)) (fun q hq => h q (.tail _ hq))
    rw [sum_addI, sum_timesI, h _ (.head _)] at ih
    rw [totR_c]
    show ((tabR (addI tb (timesI r.2.1 r.2.2)) rs).map (·.2)).sum = _
    omega
theorem drawn_eq {n : Nat} {cs vs : List V} {rest : List Dn} (hlen : vs.length = rest.length) (hl : rest.length ≤ 90) (hf : ∀ i r, rest[i]? = some r → lapFit (n + 124) cs vs i r) (hnd : (rest.map fun r => cd r.1).Nodup) (hb : lenR rest ≤ 900) (hs : ∀ r ∈ rest, (r.2.1.map (·.2)).sum = 3 ^ (r.1.1 + r.1.2.1).toNat) :
    (Ev.at ft (n + 134)).call (Str.ofString "_law_drawn") [.list cs, .list vs] = some (.tup [.dict (prV rest), .dict (toV (tkR rest)), .dict (toV (tabR [] rest))], false) := by
  obtain ⟨L2, e1, s2⟩ := dr_laps (n := n) (cs := cs) (vs := vs) rest 0 [] [] [] 0 _ (.mk true none none none none none none) (fun i r hi => by rw [Nat.zero_add]; exact hf i r hi) hnd (by simp) (by simp) (by simp; omega) (by simp; omega) (by simpa using hb) (by simp)
  obtain ⟨o', g', h', i', p', k', l'⟩ := s2
  have ht := tabR_length rest []
  have hsum := sum_tabR rest [] hs
  obtain ⟨L, e2⟩ := dr_end (n := n + 131) (.dict (prV rest)) (.dict (toV (tkR rest))) (.dict (toV (tabR [] rest))) (0 + totR rest) o' (some (.list cs, false)) (some (.list vs, false)) g' h' i' p' k' l' (by first | exact nle (by decide) | omega) (fun m hm => by
    rw [show (0 : Int) + totR rest = ((tabR [] rest).map (·.2)).sum by rw [hsum]; rfl]
    exact count_calls_eq (by first | exact nle (by decide) | omega) (by simp at ht; omega))
  show (Ev.at ft (n + 134)).call (S "_law_drawn") _ = _
  rw [call_at (g := "_law_drawn") rfl rfl, ls3 (l := bdOf "_law_drawn") rfl, dr_start, execs_cons, dr_0, thn_next, execs_cons, exec_for (rfl : stAt (bdOf "_law_drawn") 1 = .For _ _ _ [] _) rfl, dr_iter _ _ _ _ _ _ _ _ _ _ _ _ (by first | exact nle (by decide) | omega) (by first | exact nle (by decide) | omega), Option.bind_some]
  · rw [show lapOf (Ev.at ft (n + 130)) (scOf "_law_drawn") (forT (stAt (bdOf "_law_drawn") 1)) (forB (stAt (bdOf "_law_drawn") 1)) = lapAt (n + 130) "_law_drawn" 1 from rfl]
    dsimp only
    rw [hlen, upTo_from, show (V.dict ([] : List (Int × V))) = .dict (toV []) from rfl]
    rw [show (V.dict ([] : List (Int × V))) = .dict (toV []) from rfl] at e1
    rw [show (toV []) = [] from rfl] at e1 ⊢
    rw [e1, thn_next]
    rw [List.nil_append, List.nil_append, e2, retOf_ret]
  · omega
end Mine
end
/-! PuE -/
section
set_option maxRecDepth 100000
set_option linter.unusedVariables false
namespace Mine
open PySem
/-! law -/
noncomputable def lwL (a0 a1 a2 a3 a4 a5 a6 a7 : O) : Loc := [(Str.ofString "script", a0), (Str.ofString "cells", a1), (Str.ofString "draw", a2), (Str.ofString "degree", a3), (Str.ofString "weights", a4), (Str.ofString "powers", a5), (Str.ofString "drawn", a6), (Str.ofString "number", a7)]
section
variable (a0 a1 a2 a3 a4 a5 a6 a7 p : O)
theorem lw_g0 : getL (lwL a0 a1 a2 a3 a4 a5 a6 a7) (Str.ofString "script") = a0 := by cases a0 <;> rfl
theorem lw_s0 : setL (lwL a0 a1 a2 a3 a4 a5 a6 a7) (Str.ofString "script") p = lwL p a1 a2 a3 a4 a5 a6 a7 := rfl
theorem lw_g1 : getL (lwL a0 a1 a2 a3 a4 a5 a6 a7) (Str.ofString "cells") = a1 := by cases a1 <;> rfl
theorem lw_s1 : setL (lwL a0 a1 a2 a3 a4 a5 a6 a7) (Str.ofString "cells") p = lwL a0 p a2 a3 a4 a5 a6 a7 := rfl
theorem lw_g2 : getL (lwL a0 a1 a2 a3 a4 a5 a6 a7) (Str.ofString "draw") = a2 := by cases a2 <;> rfl
theorem lw_g3 : getL (lwL a0 a1 a2 a3 a4 a5 a6 a7) (Str.ofString "degree") = a3 := by cases a3 <;> rfl
theorem lw_s3 : setL (lwL a0 a1 a2 a3 a4 a5 a6 a7) (Str.ofString "degree") p = lwL a0 a1 a2 p a4 a5 a6 a7 := rfl
theorem lw_g5 : getL (lwL a0 a1 a2 a3 a4 a5 a6 a7) (Str.ofString "powers") = a5 := by cases a5 <;> rfl
theorem lw_s5 : setL (lwL a0 a1 a2 a3 a4 a5 a6 a7) (Str.ofString "powers") p = lwL a0 a1 a2 a3 a4 p a6 a7 := rfl
theorem lw_g6 : getL (lwL a0 a1 a2 a3 a4 a5 a6 a7) (Str.ofString "drawn") = a6 := by cases a6 <;> rfl
theorem lw_g7 : getL (lwL a0 a1 a2 a3 a4 a5 a6 a7) (Str.ofString "number") = a7 := by cases a7 <;> rfl
theorem lw_s7 : setL (lwL a0 a1 a2 a3 a4 a5 a6 a7) (Str.ofString "number") p = lwL a0 a1 a2 a3 a4 a5 a6 p := rfl
theorem lw_k0 : kindAt (scOf "law") (Str.ofString "script") = some .local := rfl
theorem lw_k1 : kindAt (scOf "law") (Str.ofString "cells") = some .local := rfl
theorem lw_k2 : kindAt (scOf "law") (Str.ofString "draw") = some .local := rfl
theorem lw_k3 : kindAt (scOf "law") (Str.ofString "degree") = some .local := rfl
theorem lw_k5 : kindAt (scOf "law") (Str.ofString "powers") = some .local := rfl
theorem lw_k6 : kindAt (scOf "law") (Str.ofString "drawn") = some .local := rfl
theorem lw_k7 : kindAt (scOf "law") (Str.ofString "number") = some .local := rfl
end
theorem lw_v0 (R : Ev) (loc : Loc) (p : Pos) : val R (scOf "law") (.Name (Str.ofString "script") p) loc = (getL loc (Str.ofString "script")).map fun q => (q.1, if q.2 = true then setL loc (Str.ofString "script") (some (q.1, false)) else loc) := val_nm _ _ _ _ _ (by rw [lw_k0]; rfl)
theorem lw_p1 (R : Ev) (loc : Loc) (p : Pos) : pk R (scOf "law") (.Name (Str.ofString "cells") p) loc = (getL loc (Str.ofString "cells")).map fun q => (q.1, loc) := pk_nm _ _ _ _ _ (by rw [lw_k1]; rfl)
theorem lw_v1 (R : Ev) (loc : Loc) (p : Pos) : val R (scOf "law") (.Name (Str.ofString "cells") p) loc = (getL loc (Str.ofString "cells")).map fun q => (q.1, if q.2 = true then setL loc (Str.ofString "cells") (some (q.1, false)) else loc) := val_nm _ _ _ _ _ (by rw [lw_k1]; rfl)
theorem lw_u1 (a0 a1 a2 a3 a4 a5 a6 a7 : O) (v : V) (b : Bool) : putN (scOf "law") (Str.ofString "cells") v b (lwL a0 a1 a2 a3 a4 a5 a6 a7) = some (lwL a0 (some (v, b)) a2 a3 a4 a5 a6 a7) := rfl
theorem lw_p2 (R : Ev) (loc : Loc) (p : Pos) : pk R (scOf "law") (.Name (Str.ofString "draw") p) loc = (getL loc (Str.ofString "draw")).map fun q => (q.1, loc) := pk_nm _ _ _ _ _ (by rw [lw_k2]; rfl)
theorem lw_u2 (a0 a1 a2 a3 a4 a5 a6 a7 : O) (v : V) (b : Bool) : putN (scOf "law") (Str.ofString "draw") v b (lwL a0 a1 a2 a3 a4 a5 a6 a7) = some (lwL a0 a1 (some (v, b)) a3 a4 a5 a6 a7) := rfl
theorem lw_p3 (R : Ev) (loc : Loc) (p : Pos) : pk R (scOf "law") (.Name (Str.ofString "degree") p) loc = (getL loc (Str.ofString "degree")).map fun q => (q.1, loc) := pk_nm _ _ _ _ _ (by rw [lw_k3]; rfl)
theorem lw_v3 (R : Ev) (loc : Loc) (p : Pos) : val R (scOf "law") (.Name (Str.ofString "degree") p) loc = (getL loc (Str.ofString "degree")).map fun q => (q.1, if q.2 = true then setL loc (Str.ofString "degree") (some (q.1, false)) else loc) := val_nm _ _ _ _ _ (by rw [lw_k3]; rfl)
theorem lw_p5 (R : Ev) (loc : Loc) (p : Pos) : pk R (scOf "law") (.Name (Str.ofString "powers") p) loc = (getL loc (Str.ofString "powers")).map fun q => (q.1, loc) := pk_nm _ _ _ _ _ (by rw [lw_k5]; rfl)
theorem lw_v5 (R : Ev) (loc : Loc) (p : Pos) : val R (scOf "law") (.Name (Str.ofString "powers") p) loc = (getL loc (Str.ofString "powers")).map fun q => (q.1, if q.2 = true then setL loc (Str.ofString "powers") (some (q.1, false)) else loc) := val_nm _ _ _ _ _ (by rw [lw_k5]; rfl)
theorem lw_u5 (a0 a1 a2 a3 a4 a5 a6 a7 : O) (v : V) (b : Bool) : putN (scOf "law") (Str.ofString "powers") v b (lwL a0 a1 a2 a3 a4 a5 a6 a7) = some (lwL a0 a1 a2 a3 a4 (some (v, b)) a6 a7) := rfl
theorem lw_p6 (R : Ev) (loc : Loc) (p : Pos) : pk R (scOf "law") (.Name (Str.ofString "drawn") p) loc = (getL loc (Str.ofString "drawn")).map fun q => (q.1, loc) := pk_nm _ _ _ _ _ (by rw [lw_k6]; rfl)
theorem lw_u6 (a0 a1 a2 a3 a4 a5 a6 a7 : O) (v : V) (b : Bool) : putN (scOf "law") (Str.ofString "drawn") v b (lwL a0 a1 a2 a3 a4 a5 a6 a7) = some (lwL a0 a1 a2 a3 a4 a5 (some (v, b)) a7) := rfl
theorem lw_v7 (R : Ev) (loc : Loc) (p : Pos) : val R (scOf "law") (.Name (Str.ofString "number") p) loc = (getL loc (Str.ofString "number")).map fun q => (q.1, if q.2 = true then setL loc (Str.ofString "number") (some (q.1, false)) else loc) := val_nm _ _ _ _ _ (by rw [lw_k7]; rfl)
theorem lw_c__law_cells (n : Nat) (loc : Loc) (p q : Pos) (e : Expr) (r : List Expr) : (Ev.at ft (n + 1)).ev (scOf "law") (.Call (.Name (Str.ofString "_law_cells") p) (e :: r) [] q) loc = (vals (Ev.at ft n) (scOf "law") (e :: r) loc).bind fun t => ((Ev.at ft n).call (Str.ofString "_law_cells") t.1).bind fun u => some (u.1, u.2, t.2) := v_call _ _ _ _ _ _ _ rfl rfl rfl rfl rfl
theorem lw_c_sum (n : Nat) (loc : Loc) (p q : Pos) (e : Expr) (r : List Expr) : (Ev.at ft (n + 1)).ev (scOf "law") (.Call (.Name (Str.ofString "sum") p) (e :: r) [] q) loc = (pks (Ev.at ft n) (scOf "law") (e :: r) loc).bind fun t => (builtV "sum" t.1).bind fun v => some (v, false, t.2) := v_built _ _ _ _ _ _ _ _ rfl rfl rfl rfl rfl rfl
theorem lw_c__law_drawn (n : Nat) (loc : Loc) (p q : Pos) (e : Expr) (r : List Expr) : (Ev.at ft (n + 1)).ev (scOf "law") (.Call (.Name (Str.ofString "_law_drawn") p) (e :: r) [] q) loc = (vals (Ev.at ft n) (scOf "law") (e :: r) loc).bind fun t => ((Ev.at ft n).call (Str.ofString "_law_drawn") t.1).bind fun u => some (u.1, u.2, t.2) := v_call _ _ _ _ _ _ _ rfl rfl rfl rfl rfl
theorem lw_c__law_read (n : Nat) (loc : Loc) (p q : Pos) (e : Expr) (r : List Expr) : (Ev.at ft (n + 1)).ev (scOf "law") (.Call (.Name (Str.ofString "_law_read") p) (e :: r) [] q) loc = (vals (Ev.at ft n) (scOf "law") (e :: r) loc).bind fun t => ((Ev.at ft n).call (Str.ofString "_law_read") t.1).bind fun u => some (u.1, u.2, t.2) := v_call _ _ _ _ _ _ _ rfl rfl rfl rfl rfl
theorem lw_c__law_columns (n : Nat) (loc : Loc) (p q : Pos) (e : Expr) (r : List Expr) : (Ev.at ft (n + 1)).ev (scOf "law") (.Call (.Name (Str.ofString "_law_columns") p) (e :: r) [] q) loc = (vals (Ev.at ft n) (scOf "law") (e :: r) loc).bind fun t => ((Ev.at ft n).call (Str.ofString "_law_columns") t.1).bind fun u => some (u.1, u.2, t.2) := v_call _ _ _ _ _ _ _ rfl rfl rfl rfl rfl
theorem lw_c__law_waring (n : Nat) (loc : Loc) (p q : Pos) (e : Expr) (r : List Expr) : (Ev.at ft (n + 1)).ev (scOf "law") (.Call (.Name (Str.ofString "_law_waring") p) (e :: r) [] q) loc = (vals (Ev.at ft n) (scOf "law") (e :: r) loc).bind fun t => ((Ev.at ft n).call (Str.ofString "_law_waring") t.1).bind fun u => some (u.1, u.2, t.2) := v_call _ _ _ _ _ _ _ rfl rfl rfl rfl rfl
theorem lw_start (x : V) : fLoc (fdAt "law") [x] = lwL (some (x, false)) none none none none none none none := rfl
theorem lw_0 {n : Nat} (x w : V) (o : Bool) (b c d e f g h : O) (hc : (Ev.at ft (n + 18)).call (Str.ofString "_law_cells") [x] = some (w, o)) : (Ev.at ft (n + 20)).exec (scOf "law") (stAt (bdOf "law") 0) (lwL (some (x, false)) b c d e f g h) = some (.next, lwL (some (x, false)) (some (w, o)) c d e f g h) := by
  show (Ev.at ft (n + 20)).exec (scOf "law") (.Assign [.Name _ _] (.Call _ [.Name _ _] [] _) _) _ = _
  simp only [x_asg, Option.map_some, Option.bind_some, vals_nil, vals_cons, Option.bind_eq_bind, lw_g0, lw_s0, lw_v0, lw_u1, lw_c__law_cells, hc, Bool.false_eq_true, if_false]
theorem built_sum (l : List Int) : builtV "sum" [.list (l.map V.int)] = some (.int l.sum) := by
  show (intsV (l.map V.int)).bind (fun l => some (V.int l.sum)) = _
  rw [intsV_map']; rfl
theorem lw_1 {n : Nat} (l : List Int) (o : Bool) (a c d e f g h : O) (hn : 20 ≤ n) : (Ev.at ft n).exec (scOf "law") (stAt (bdOf "law") 1) (lwL a (some (.list (l.map V.int), o)) c d e f g h) = some (.next, lwL a (some (.list (l.map V.int), o)) (some (.int l.sum, false)) d e f g h) := by
  obtain ⟨n, rfl⟩ := up hn
  show (Ev.at ft (n + 20)).exec (scOf "law") (.Assign [.Name _ _] (.Call _ [.Name _ _] [] _) _) _ = _
  simp only [x_asg, Option.map_some, Option.bind_some, pks_nil, pks_cons, Option.bind_eq_bind, lw_g1, lw_p1, lw_u2, lw_c_sum, built_sum]
theorem lw_2 {n : Nat} (s : Int) (a b d e f g h : O) (hn : 20 ≤ n) : (Ev.at ft n).exec (scOf "law") (stAt (bdOf "law") 2) (lwL a b (some (.int s, false)) d e f g h) = some (.next, lwL a b (some (.int s, false)) (some (.int (1 + s.fmod 4), false)) e f g h) := by
  obtain ⟨n, rfl⟩ := up hn
  rfl
/-- the second weight -/
noncomputable def w2 (d : Int) : Int := if d = 1 then 0 else if d = 2 then 1 else if d = 3 then 2 else 1
theorem lw_3 {n : Nat} (d : Int) (a b c e f g h : O) (hn : 20 ≤ n) (hd : d ∈ [1, 2, 3, 4]) : (Ev.at ft n).exec (scOf "law") (stAt (bdOf "law") 3) (lwL a b c (some (.int d, false)) e f g h) = some (.next, lwL a b c (some (.int d, false)) (some (.list [.int d, .int (w2 d)], true)) f g h) := by
  obtain ⟨n, rfl⟩ := up hn
  simp only [List.mem_cons, List.not_mem_nil, or_false] at hd
  rcases hd with rfl | rfl | rfl | rfl <;> rfl
noncomputable abbrev lwX : Expr := asgV (stAt (bdOf "law") 4)
noncomputable def lwC0 : Loc := compLoc [] (lcS lwX).names
theorem lw_4 {n : Nat} (d w : Int) (ps : List V) (l : Loc) (o : Bool) (a b c e f g h : O) (hp : compG (Ev.at ft (n + 28)) (lcS lwX) (lcE lwX) (lcG lwX) [.int d, .int w] lwC0 = some (ps, l)) (hs : ps.length ≤ 1000) : (Ev.at ft (n + 30)).exec (scOf "law") (stAt (bdOf "law") 4) (lwL a b c e (some (.list [.int d, .int w], true)) f g h) = some (.next, lwL a b c e (some (.list [.int d, .int w], false)) (some (.list ps, false)) g h) := by
  have hc : listComp (Ev.at ft (n + 28)) (scOf "law") (lcE lwX) (lcG lwX) (lcS lwX) (lwL a b c e (some (.list [.int d, .int w], true)) f g h) = some (.list ps, lwL a b c e (some (.list [.int d, .int w], false)) f g h) := by
    rw [listComp_eq (rfl : lcOk _ _ _ (lwL a b c e (some (.list [.int d, .int w], true)) f g h) = true)]
    refine bind_of (a := ([.int d, .int w], lwL a b c e (some (.list [.int d, .int w], false)) f g h)) rfl ?_
    exact bind_of (a := (ps, l)) hp (if_pos (small_of (by dsimp only; omega)))
  have e1 : ∀ L : Loc, (Ev.at ft (n + 29)).ev (scOf "law") lwX L = ((listComp (Ev.at ft (n + 28)) (scOf "law") (lcE lwX) (lcG lwX) (lcS lwX) L).bind fun t => some (t.1, false, t.2)) := fun L => rfl
  show (Ev.at ft (n + 30)).exec (scOf "law") (.Assign [.Name _ _] lwX _) _ = _
  rw [x_asg, e1, hc]
  simp only [Option.bind_some, lw_u5]
theorem lw_5 {n : Nat} (cv pv r : V) (o : Bool) (a c d e f g h : O) (hc : (Ev.at ft (n + 18)).call (Str.ofString "_law_drawn") [cv, pv] = some (r, false)) : (Ev.at ft (n + 20)).exec (scOf "law") (stAt (bdOf "law") 5) (lwL a (some (cv, o)) c d e (some (pv, false)) g h) = some (.next, lwL a (some (cv, false)) c d e (some (pv, false)) (some (r, false)) h) := by
  show (Ev.at ft (n + 20)).exec (scOf "law") (.Assign [.Name _ _] (.Call _ [.Name _ _, .Name _ _] [] _) _) _ = _
  cases o <;> simp only [x_asg, Option.map_some, Option.bind_some, vals_nil, vals_cons, Option.bind_eq_bind, lw_g1, lw_s1, lw_g5, lw_s5, lw_v1, lw_v5, lw_u6, lw_c__law_drawn, hc, Bool.false_eq_true, if_false, if_true]
theorem lw_6 {n : Nat} (us : List V) (a b c d e f h : O) (hn : 20 ≤ n) : (Ev.at ft n).exec (scOf "law") (stAt (bdOf "law") 6) (lwL a b c d e f (some (.tup us, false)) h) = some (.next, lwL a b c d e f (some (.tup us, false)) h) := by
  obtain ⟨n, rfl⟩ := up hn
  rfl
theorem lw_iter {n : Nat} (s : Int) (a b d e f g h : O) (hn : 20 ≤ n) : iter (Ev.at ft n) (scOf "law") (forI (stAt (bdOf "law") 7)) (lwL a b (some (.int s, false)) d e f g h) = some ([.int (s.fdiv 4), .int (s.fdiv 192)], lwL a b (some (.int s, false)) d e f g h) := by
  obtain ⟨n, rfl⟩ := up hn
  rfl
theorem lw_lap {n : Nat} (k : Int) (es tk tb cv rd : V) (a b c d e f h : O) (hn : 40 ≤ n) (hcol : ∀ m, n ≤ m + 20 → (Ev.at ft m).call (Str.ofString "_law_columns") [.int k] = some (cv, false)) (hread : ∀ m, n ≤ m + 20 → ∃ o, (Ev.at ft m).call (Str.ofString "_law_read") [tb, cv, es] = some (rd, o)) (hne : cmpV .NotEq rd tk = some false) : lapAt n "law" 7 (.int k) (lwL a b c d e f (some (.tup [es, tk, tb], false)) h) = some (.next, lwL a b c d e f (some (.tup [es, tk, tb], false)) (some (.int k, false))) := by
  obtain ⟨n, rfl⟩ := up hn
  have i0 : itemV (.tup [es, tk, tb]) (.int 0) = some es := rfl
  have i1 : itemV (.tup [es, tk, tb]) (.int 1) = some tk := rfl
  have i2 : itemV (.tup [es, tk, tb]) (.int 2) = some tb := rfl
  have c1 := hcol (n + 33) (by first | exact nle (by decide) | omega)
  have c2 := hcol (n + 34) (by first | exact nle (by decide) | omega)
  have c3 := hcol (n + 35) (by first | exact nle (by decide) | omega)
  have c4 := hcol (n + 36) (by first | exact nle (by decide) | omega)
  obtain ⟨o1, r1⟩ := hread (n + 34) (by first | exact nle (by decide) | omega)
  obtain ⟨o2, r2⟩ := hread (n + 35) (by first | exact nle (by decide) | omega)
  obtain ⟨o3, r3⟩ := hread (n + 36) (by first | exact nle (by decide) | omega)
  obtain ⟨o4, r4⟩ := hread (n + 37) (by first | exact nle (by decide) | omega)
  have ht : (Ev.at ft (n + 38)).tst (scOf "law") (ifT (stAt (forB (stAt (bdOf "law") 7)) 0)) (lwL a b c d e f (some (.tup [es, tk, tb], false)) (some (.int k, false))) = some (false, lwL a b c d e f (some (.tup [es, tk, tb], false)) (some (.int k, false))) := by
    show (Ev.at ft (n + 38)).tst (scOf "law") (.Compare (.Call _ [.Subscript (.Name _ _) _ _, .Call _ [.Name _ _] [] _, .Subscript (.Name _ _) _ _] [] _) [.NotEq] [.Subscript (.Name _ _) _ _] _) _ = _
    simp only [pk_Constant, val_Call, pk_Call, val_Subscript, pk_Subscript, vi_ct, v_int, t_cmp, Option.map_some, Option.bind_some, vals_nil, vals_cons, Option.bind_eq_bind, lw_g6, lw_g7, lw_s7, lw_p6, lw_v7, lw_c__law_read, lw_c__law_columns, i0, i1, i2, c3, r3, hne, Bool.false_eq_true, if_false]
  rw [lap_eq, show target (scOf "law") (forT (stAt (bdOf "law") 7)) (.int k) (lwL a b c d e f (some (.tup [es, tk, tb], false)) h) = some (lwL a b c d e f (some (.tup [es, tk, tb], false)) (some (.int k, false))) from rfl, Option.bind_some, ls1 (l := forB (stAt (bdOf "law") 7)) rfl, execs_cons, exec_if_f (rfl : stAt (forB (stAt (bdOf "law") 7)) 0 = .If _ _ _ _) ht]
  rfl
theorem v_slice (n : Nat) (sc : Scope) (loc : Loc) (v : Expr) (lo hi : Option Expr) (q p : Pos) : (Ev.at ft (n + 1)).ev sc (.Subscript v (.Slice lo hi none q) p) loc = (pk (Ev.at ft n) sc v loc).bind fun a => (part (Ev.at ft n) sc lo a.2).bind fun l => (part (Ev.at ft n) sc hi l.2).bind fun h => (cutV a.1 l.1 h.1).bind fun r => some (r, false, h.2) := rfl
theorem lw_8 {n : Nat} (s d : Int) (es tk tb cv rd wd : V) (ps qs : List V) (o2 v : Bool) (a b e h : O) (hcut : cutV (.list ps) none (some (.int d)) = some (.list qs)) (hcol : ∀ m, n ≤ m → (Ev.at ft m).call (Str.ofString "_law_columns") [.int (s.fdiv 4)] = some (cv, false)) (hread : ∀ m, n ≤ m → ∃ o, (Ev.at ft m).call (Str.ofString "_law_read") [.dict (storeE (storeE (storeE [] (100 * d) (.int 1)) (10 * d) (.int 1)) d (.int 1)), cv, es] = some (rd, o)) (hwar : (Ev.at ft (n + 27)).call (Str.ofString "_law_waring") [.list qs] = some (wd, o2)) (heq : cmpV .Eq rd wd = some v) : ∃ L, (Ev.at ft (n + 31)).execs (scOf "law") [stAt (bdOf "law") 8] (lwL a b (some (.int s, false)) (some (.int d, false)) e (some (.list ps, false)) (some (.tup [es, tk, tb], false)) h) = some (.ret (.bool v) false, L) := by
  have i0 : itemV (.tup [es, tk, tb]) (.int 0) = some es := rfl
  have m1 : ∀ a : Int, binV .Mult (.int 100) (.int a) = some (.int (100 * a)) := fun a => mul_l (by decide)
  have m2 : ∀ a : Int, binV .Mult (.int 10) (.int a) = some (.int (10 * a)) := fun a => mul_l (by decide)
  have f4 : binV .FloorDiv (.int s) (.int 4) = some (.int (s.fdiv 4)) := fdiv_ok (by decide) (by decide)
  have c1 := hcol (n + 24) (by first | exact nle (by decide) | omega)
  have c2 := hcol (n + 25) (by first | exact nle (by decide) | omega)
  have c3 := hcol (n + 26) (by first | exact nle (by decide) | omega)
  obtain ⟨o1, r1⟩ := hread (n + 25) (by first | exact nle (by decide) | omega)
  obtain ⟨o2, r2⟩ := hread (n + 26) (by first | exact nle (by decide) | omega)
  obtain ⟨o3, r3⟩ := hread (n + 27) (by first | exact nle (by decide) | omega)
  refine ⟨lwL a b (some (.int s, false)) (some (.int d, false)) e (some (.list ps, false)) (some (.tup [es, tk, tb], false)) h, ?_⟩
  have hx : (Ev.at ft (n + 30)).exec (scOf "law") (stAt (bdOf "law") 8) (lwL a b (some (.int s, false)) (some (.int d, false)) e (some (.list ps, false)) (some (.tup [es, tk, tb], false)) h) = some (.ret (.bool v) false, lwL a b (some (.int s, false)) (some (.int d, false)) e (some (.list ps, false)) (some (.tup [es, tk, tb], false)) h) := by
    show (Ev.at ft (n + 30)).exec (scOf "law") (.Return (some (.Compare (.Call _ [.Dict [some (.BinOp _ .Mult (.Name _ _) _), some (.BinOp _ .Mult (.Name _ _) _), some (.Name _ _)] [_, _, _] _, .Call _ [.BinOp (.Name _ _) .FloorDiv _ _] [] _, .Subscript (.Name _ _) _ _] [] _) [.Eq] [.Call _ [.Subscript (.Name _ _) (.Slice none (some (.Name _ _)) none _) _] [] _] _)) _) _ = _
    simp only [val_Constant, pk_Constant, val_BinOp, val_Dict, val_Call, pk_Call, val_Subscript, vi_ct, v_int, v_bin, v_cmp, v_dict, x_ret, Option.map_some, Option.bind_some, vals_nil, vals_cons, Option.bind_eq_bind, lw_g2, lw_g3, lw_s3, lw_g5, lw_g6, lw_p2, lw_p3, lw_v3, lw_p5, lw_p6, lw_c__law_read, lw_c__law_columns, lw_c__law_waring, v_slice, part, pairs_nil, pairs_cons, m1, m2, f4, i0, hcut, c3, r3, hwar, heq, List.foldl, List.length, Nat.reduceAdd, Nat.reduceLeDiff, decide_true, Bool.false_eq_true, if_false, if_true]
  rw [execs_done (hx)]
end Mine
end
/-! PuF -/
section
set_option maxRecDepth 100000
set_option linter.unusedVariables false
namespace Mine
open PySem
/-! the data of the four degrees -/
noncomputable abbrev Pe := (Int × Int × Int) × List (Int × Int)
noncomputable def e100 : Pe := ((1, 0, 0), [(100, 1), (10, 1), (1, 1)])
noncomputable def e000 : Pe := ((0, 0, 0), [(0, 1)])
noncomputable def e010 : Pe := ((0, 1, 0), [(110, 1), (101, 1), (11, 1)])
noncomputable def e200 : Pe := ((2, 0, 0), [(200, 1), (110, 2), (101, 2), (20, 1), (11, 2), (2, 1)])
noncomputable def e001 : Pe := ((0, 0, 1), [(111, 1)])
noncomputable def e110 : Pe := ((1, 1, 0), [(210, 1), (120, 1), (111, 3), (201, 1), (102, 1), (21, 1), (12, 1)])
noncomputable def e300 : Pe := ((3, 0, 0), [(300, 1), (210, 3), (201, 3), (120, 3), (111, 6), (102, 3), (30, 1), (21, 3), (12, 3), (3, 1)])
noncomputable def e020 : Pe := ((0, 2, 0), [(220, 1), (211, 2), (121, 2), (202, 1), (112, 2), (22, 1)])
noncomputable def e101 : Pe := ((1, 0, 1), [(211, 1), (121, 1), (112, 1)])
noncomputable def e210 : Pe := ((2, 1, 0), [(310, 1), (220, 2), (211, 5), (130, 1), (121, 5), (112, 5), (301, 1), (202, 2), (103, 1), (31, 1), (22, 2), (13, 1)])
noncomputable def e400 : Pe := ((4, 0, 0), [(400, 1), (310, 4), (301, 4), (220, 6), (211, 12), (202, 6), (130, 4), (121, 12), (112, 12), (103, 4), (40, 1), (31, 4), (22, 6), (13, 4), (4, 1)])
noncomputable def allE : List Pe := [e100, e000, e010, e200, e001, e110, e300, e020, e101, e210, e400]
noncomputable def deg : Int → List Pe
  | 1 => [e100, e000]
  | 2 => [e010, e200, e100]
  | 3 => [e001, e110, e300, e010, e200]
  | _ => [e020, e101, e210, e400, e100]
noncomputable def degs : List Int := [1, 2, 3, 4]
noncomputable def isDv (v : V) (P : List (Int × Int)) : Bool := match v with
  | .dict es => match intsV (es.map (·.2)) with
    | some vs => decide (es.map (·.1) = P.map (·.1)) && decide (vs = P.map (·.2))
    | none => false
  | _ => false
noncomputable def isD (x : Option (V × Bool)) (P : List (Int × Int)) : Bool := match x with
  | some q => isDv q.1 P
  | none => false
theorem intsV_some {l : List V} : ∀ {vs : List Int}, intsV l = some vs → l = vs.map V.int := by
  induction l with
  | nil => intro vs h; rw [← some1 h]; rfl
  | cons v r ih =>
    intro vs h
    obtain ⟨i, ms, rfl, q, rfl⟩ := inv_intsV h
    rw [ih q]; rfl
theorem toV_zip : ∀ {es : List (Int × V)} {P : List (Int × Int)}, es.map (·.1) = P.map (·.1) → es.map (·.2) = (P.map (·.2)).map V.int → es = toV P
  | [], [], _, _ => rfl
  | [], _ :: _, h, _ => by simp at h
  | _ :: _, [], h, _ => by simp at h
  | (a, b) :: es, (c, d) :: P, h1, h2 => by
    simp only [List.map_cons, List.cons.injEq] at h1 h2
    rw [toV_zip h1.2 h2.2, h1.1, h2.1]; rfl
theorem isDv_eq {v : V} {P : List (Int × Int)} (h : isDv v P = true) : v = .dict (toV P) := by
  cases v with
  | dict es =>
    have h : (match intsV (es.map (·.2)) with | some vs => decide (es.map (·.1) = P.map (·.1)) && decide (vs = P.map (·.2)) | none => false) = true := h
    cases hv : intsV (es.map (·.2)) with
    | none => rw [hv] at h; exact absurd h Bool.false_ne_true
    | some vs =>
      rw [hv] at h
      have h := Bool.and_eq_true_iff.mp h
      have h2 := intsV_some hv
      rw [of_decide_eq_true h.2] at h2
      rw [toV_zip (of_decide_eq_true h.1) h2]
  | _ => exact absurd h Bool.false_ne_true
theorem isD_eq {x : Option (V × Bool)} {P : List (Int × Int)} (h : isD x P = true) : ∃ o, x = some (.dict (toV P), o) := by
  cases x with
  | none => exact absurd h Bool.false_ne_true
  | some q =>
    obtain ⟨v, o⟩ := q
    exact ⟨o, by rw [isDv_eq (show isDv v P = true from h)]⟩
noncomputable def isT (v : V) (p : Int × Int × Int) : Bool := match v with
  | .tup vs => match intsV vs with
    | some l => decide (l = [p.1, p.2.1, p.2.2])
    | none => false
  | _ => false
noncomputable def isPs : List V → List (Int × Int × Int) → Bool
  | [], [] => true
  | v :: r, p :: t => isT v p && isPs r t
  | _, _ => false
noncomputable def isP (x : Option (List V × Loc)) (ps : List (Int × Int × Int)) : Bool := match x with
  | some q => isPs q.1 ps
  | none => false
theorem isT_eq {v : V} {p : Int × Int × Int} (h : isT v p = true) : v = pwV p := by
  cases v with
  | tup vs =>
    have h : (match intsV vs with | some l => decide (l = [p.1, p.2.1, p.2.2]) | none => false) = true := h
    cases hv : intsV vs with
    | none => rw [hv] at h; exact absurd h Bool.false_ne_true
    | some l =>
      rw [hv] at h
      rw [intsV_some hv, of_decide_eq_true h]; rfl
  | _ => exact absurd h Bool.false_ne_true
theorem isPs_eq (vs : List V) : ∀ {ps : List (Int × Int × Int)}, isPs vs ps = true → vs = ps.map pwV := by
  induction vs with
  | nil =>
    intro ps h
    cases ps with
    | nil => rfl
    | cons _ _ => exact absurd h Bool.false_ne_true
  | cons v r ih =>
    intro ps h
    cases ps with
    | nil => exact absurd h Bool.false_ne_true
    | cons p t =>
      have h := Bool.and_eq_true_iff.mp (show (isT v p && isPs r t) = true from h)
      rw [isT_eq h.1, ih h.2]; rfl
theorem isP_eq {x : Option (List V × Loc)} {ps : List (Int × Int × Int)} (h : isP x ps = true) : ∃ l, x = some (ps.map pwV, l) := by
  cases x with
  | none => exact absurd h Bool.false_ne_true
  | some q =>
    obtain ⟨vs, l⟩ := q
    exact ⟨l, by rw [isPs_eq vs (show isPs vs ps = true from h)]⟩
theorem pr_e100 : isD ((Ev.at ft 381).call (Str.ofString "_law_product") [pwV e100.1]) e100.2 = true := by decide +kernel
theorem pr_e000 : isD ((Ev.at ft 381).call (Str.ofString "_law_product") [pwV e000.1]) e000.2 = true := by decide +kernel
theorem pr_e010 : isD ((Ev.at ft 381).call (Str.ofString "_law_product") [pwV e010.1]) e010.2 = true := by decide +kernel
theorem pr_e200 : isD ((Ev.at ft 381).call (Str.ofString "_law_product") [pwV e200.1]) e200.2 = true := by decide +kernel
theorem pr_e001 : isD ((Ev.at ft 381).call (Str.ofString "_law_product") [pwV e001.1]) e001.2 = true := by decide +kernel
theorem pr_e110 : isD ((Ev.at ft 381).call (Str.ofString "_law_product") [pwV e110.1]) e110.2 = true := by decide +kernel
theorem pr_e300 : isD ((Ev.at ft 381).call (Str.ofString "_law_product") [pwV e300.1]) e300.2 = true := by decide +kernel
theorem pr_e020 : isD ((Ev.at ft 381).call (Str.ofString "_law_product") [pwV e020.1]) e020.2 = true := by decide +kernel
theorem pr_e101 : isD ((Ev.at ft 381).call (Str.ofString "_law_product") [pwV e101.1]) e101.2 = true := by decide +kernel
theorem pr_e210 : isD ((Ev.at ft 381).call (Str.ofString "_law_product") [pwV e210.1]) e210.2 = true := by decide +kernel
theorem pr_e400 : isD ((Ev.at ft 381).call (Str.ofString "_law_product") [pwV e400.1]) e400.2 = true := by decide +kernel
theorem prod_ok : ∀ e ∈ allE, isD ((Ev.at ft 381).call (Str.ofString "_law_product") [pwV e.1]) e.2 = true := List.forall_mem_cons.mpr ⟨pr_e100, List.forall_mem_cons.mpr ⟨pr_e000, List.forall_mem_cons.mpr ⟨pr_e010, List.forall_mem_cons.mpr ⟨pr_e200, List.forall_mem_cons.mpr ⟨pr_e001, List.forall_mem_cons.mpr ⟨pr_e110, List.forall_mem_cons.mpr ⟨pr_e300, List.forall_mem_cons.mpr ⟨pr_e020, List.forall_mem_cons.mpr ⟨pr_e101, List.forall_mem_cons.mpr ⟨pr_e210, List.forall_mem_cons.mpr ⟨pr_e400, fun _ h => nomatch h⟩⟩⟩⟩⟩⟩⟩⟩⟩⟩⟩
theorem pow_1 : isP (compG (Ev.at ft 392) (lcS lwX) (lcE lwX) (lcG lwX) [.int (1 : Int), .int (w2 (1 : Int))] lwC0) ((deg (1 : Int)).map (·.1)) = true := by decide +kernel
theorem pow_2 : isP (compG (Ev.at ft 392) (lcS lwX) (lcE lwX) (lcG lwX) [.int (2 : Int), .int (w2 (2 : Int))] lwC0) ((deg (2 : Int)).map (·.1)) = true := by decide +kernel
theorem pow_3 : isP (compG (Ev.at ft 392) (lcS lwX) (lcE lwX) (lcG lwX) [.int (3 : Int), .int (w2 (3 : Int))] lwC0) ((deg (3 : Int)).map (·.1)) = true := by decide +kernel
theorem pow_4 : isP (compG (Ev.at ft 392) (lcS lwX) (lcE lwX) (lcG lwX) [.int (4 : Int), .int (w2 (4 : Int))] lwC0) ((deg (4 : Int)).map (·.1)) = true := by decide +kernel
theorem pow_ok : ∀ d ∈ degs, isP (compG (Ev.at ft 392) (lcS lwX) (lcE lwX) (lcG lwX) [.int d, .int (w2 d)] lwC0) ((deg d).map (·.1)) = true := List.forall_mem_cons.mpr ⟨pow_1, List.forall_mem_cons.mpr ⟨pow_2, List.forall_mem_cons.mpr ⟨pow_3, List.forall_mem_cons.mpr ⟨pow_4, fun _ h => nomatch h⟩⟩⟩⟩
/-- the coefficients that Waring's formula gives -/
noncomputable def war : Int → List (Int × Int)
  | 1 => [(100, 1)]
  | 2 => [(10, -2), (200, 1)]
  | 3 => [(1, 3), (110, -3), (300, 1)]
  | _ => [(20, 2), (101, 4), (210, -4), (400, 1)]
theorem war_1 : isD ((Ev.at ft 387).call (Str.ofString "_law_waring") [.list (((deg (1 : Int)).map fun e => pwV e.1).take (1 : Int).toNat)]) (war (1 : Int)) = true := by decide +kernel
theorem war_2 : isD ((Ev.at ft 387).call (Str.ofString "_law_waring") [.list (((deg (2 : Int)).map fun e => pwV e.1).take (2 : Int).toNat)]) (war (2 : Int)) = true := by decide +kernel
theorem war_3 : isD ((Ev.at ft 387).call (Str.ofString "_law_waring") [.list (((deg (3 : Int)).map fun e => pwV e.1).take (3 : Int).toNat)]) (war (3 : Int)) = true := by decide +kernel
theorem war_4 : isD ((Ev.at ft 387).call (Str.ofString "_law_waring") [.list (((deg (4 : Int)).map fun e => pwV e.1).take (4 : Int).toNat)]) (war (4 : Int)) = true := by decide +kernel
theorem war_ok : ∀ d ∈ degs, isD ((Ev.at ft 387).call (Str.ofString "_law_waring") [.list (((deg d).map fun e => pwV e.1).take d.toNat)]) (war d) = true := List.forall_mem_cons.mpr ⟨war_1, List.forall_mem_cons.mpr ⟨war_2, List.forall_mem_cons.mpr ⟨war_3, List.forall_mem_cons.mpr ⟨war_4, fun _ h => nomatch h⟩⟩⟩⟩
end Mine
end
/-! PuG -/
section
set_option maxRecDepth 100000
set_option linter.unusedVariables false
namespace Mine
open PySem
noncomputable def leadP (cols : List (Fin 3 × Int)) (P : List (Int × Int)) : Int := match P.map (·.1) with
  | [] => 0
  | k0 :: ks => (k0 :: ks).foldl (ldS cols) k0
noncomputable def entP (cols : List (Fin 3 × Int)) (e : Pe) : Ent := (cd e.1, leadP cols e.2, e.2)
noncomputable def insR {α : Type} (f : α → Int) (x : α) : List α → List α
  | [] => [x]
  | y :: r => if f x ≤ f y then x :: y :: r else y :: insR f x r
theorem insR_c {α : Type} {f : α → Int} {x y : α} {r : List α} : insR f x (y :: r) = if f x ≤ f y then x :: y :: r else y :: insR f x r := rfl
noncomputable def srtR {α : Type} (f : α → Int) : List α → List α
  | [] => []
  | x :: r => insR f x (srtR f r)
theorem srtR_c {α : Type} {f : α → Int} {x : α} {r : List α} : srtR f (x :: r) = insR f x (srtR f r) := rfl
theorem insR_perm {α : Type} (f : α → Int) (x : α) : ∀ l : List α, (insR f x l).Perm (x :: l)
  | [] => .refl _
  | y :: r => by
    rw [insR_c]
    split
    · exact .refl _
    · exact ((insR_perm f x r).cons y).trans (.swap x y r)
theorem srtR_perm {α : Type} (f : α → Int) : ∀ l : List α, (srtR f l).Perm l
  | [] => .refl _
  | x :: r => (insR_perm f x _).trans ((srtR_perm f r).cons x)
theorem insR_map {α β : Type} (f : α → Int) (g : β → Int) (m : α → β) (h : ∀ a, g (m a) = f a) (x : α) : ∀ l : List α, (insR f x l).map m = insR g (m x) (l.map m)
  | [] => rfl
  | y :: r => by
    rw [insR_c, List.map_cons, insR_c, h, h]
    split
    · rfl
    · rw [List.map_cons, insR_map f g m h x r]
theorem srtR_map {α β : Type} (f : α → Int) (g : β → Int) (m : α → β) (h : ∀ a, g (m a) = f a) : ∀ l : List α, (srtR f l).map m = srtR g (l.map m)
  | [] => rfl
  | x :: r => by rw [srtR_c, insR_map f g m h, srtR_map f g m h r]; rfl
noncomputable def toTd (cols : List (Fin 3 × Int)) (rest : List Dn) : List (Ent × Int) := rest.map fun r => ((cd r.1, leadP cols r.2.1, r.2.1), r.2.2)
noncomputable def valR : List Dn → Int → Int
  | [], _ => 0
  | r :: rs, k => r.2.2 * vl r.2.1 k + valR rs k
theorem tdVal_toTd (cols : List (Fin 3 × Int)) : ∀ (rest : List Dn) (k : Int), tdVal (toTd cols rest) k = valR rest k
  | [], k => rfl
  | r :: rs, k => by
    have ih := tdVal_toTd cols rs k
    unfold toTd at ih ⊢
    rw [List.map_cons, tdVal_c, ih]; rfl
theorem outs_toTd (cols : List (Fin 3 × Int)) : ∀ rest : List Dn, outs (toTd cols rest) = tkR rest
  | [] => rfl
  | r :: rs => by
    have ih := outs_toTd cols rs
    unfold toTd at ih ⊢
    rw [List.map_cons, outs_c, ih, tkR_c]
theorem tdLen_toTd (cols : List (Fin 3 × Int)) : ∀ rest : List Dn, tdLen (toTd cols rest) = lenR rest
  | [] => rfl
  | r :: rs => by
    have ih := tdLen_toTd cols rs
    unfold toTd at ih ⊢
    rw [List.map_cons, tdLen_c, ih]; rfl
theorem tdVal_perm {a b : List (Ent × Int)} (h : a.Perm b) (k : Int) : tdVal a k = tdVal b k := by
  induction h with
  | nil => rfl
  | cons x _ ih => obtain ⟨e, c⟩ := x; rw [tdVal_c, tdVal_c, ih]
  | swap x y l => obtain ⟨e, c⟩ := x; obtain ⟨e', c'⟩ := y; rw [tdVal_c, tdVal_c, tdVal_c, tdVal_c]; omega
  | trans _ _ h1 h2 => exact h1.trans h2
theorem tdLen_perm {a b : List (Ent × Int)} (h : a.Perm b) : tdLen a = tdLen b := by
  induction h with
  | nil => rfl
  | cons x _ ih => obtain ⟨e, c⟩ := x; rw [tdLen_c, tdLen_c, ih]
  | swap x y l => obtain ⟨e, c⟩ := x; obtain ⟨e', c'⟩ := y; rw [tdLen_c, tdLen_c, tdLen_c, tdLen_c]; omega
  | trans _ _ h1 h2 => exact h1.trans h2
theorem outs_perm {a b : List (Ent × Int)} (h : a.Perm b) : (outs a).Perm (outs b) := by
  induction h with
  | nil => exact .refl _
  | cons x _ ih =>
    obtain ⟨e, c⟩ := x
    rw [outs_c, outs_c]
    split
    · exact ih
    · exact ih.cons _
  | swap x y l =>
    obtain ⟨e, c⟩ := x; obtain ⟨e', c'⟩ := y
    rw [outs_c, outs_c, outs_c, outs_c]
    split <;> split <;> first | exact .refl _ | exact .swap _ _ _
  | trans _ _ h1 h2 => exact h1.trans h2
/-- the sorted products of a degree -/
noncomputable def srtE (cols : List (Fin 3 × Int)) (d : Int) : List Ent := srtR (fun e => rkOf cols e.2.1) ((deg d).map (entP cols))
theorem col_1 : ∀ cols ∈ allCols, (∀ e ∈ srtE cols 1, entOk cols e) ∧ (srtE cols 1).Pairwise (fun p q => rkOf cols p.2.1 < rkOf cols q.2.1) ∧ ((srtE cols 1).map (·.1)).Nodup := by
  unfold entOk
  decide +kernel
theorem col_2 : ∀ cols ∈ allCols, (∀ e ∈ srtE cols 2, entOk cols e) ∧ (srtE cols 2).Pairwise (fun p q => rkOf cols p.2.1 < rkOf cols q.2.1) ∧ ((srtE cols 2).map (·.1)).Nodup := by
  unfold entOk
  decide +kernel
theorem col_3 : ∀ cols ∈ allCols, (∀ e ∈ srtE cols 3, entOk cols e) ∧ (srtE cols 3).Pairwise (fun p q => rkOf cols p.2.1 < rkOf cols q.2.1) ∧ ((srtE cols 3).map (·.1)).Nodup := by
  unfold entOk
  decide +kernel
theorem col_4 : ∀ cols ∈ allCols, (∀ e ∈ srtE cols 4, entOk cols e) ∧ (srtE cols 4).Pairwise (fun p q => rkOf cols p.2.1 < rkOf cols q.2.1) ∧ ((srtE cols 4).map (·.1)).Nodup := by
  unfold entOk
  decide +kernel
theorem col_ok : ∀ d ∈ degs, ∀ cols ∈ allCols, (∀ e ∈ srtE cols d, entOk cols e) ∧ (srtE cols d).Pairwise (fun p q => rkOf cols p.2.1 < rkOf cols q.2.1) ∧ ((srtE cols d).map (·.1)).Nodup := List.forall_mem_cons.mpr ⟨col_1, List.forall_mem_cons.mpr ⟨col_2, List.forall_mem_cons.mpr ⟨col_3, List.forall_mem_cons.mpr ⟨col_4, fun _ h => nomatch h⟩⟩⟩⟩
theorem deg_ok : ∀ d ∈ degs, ((deg d).map fun e => cd e.1).Nodup ∧ ((deg d).map fun e => e.2.length).sum ≤ 100 ∧ (deg d).length ≤ 5 ∧ ∀ e ∈ deg d, e ∈ allE := by decide +kernel
theorem pe_ok : ∀ e ∈ allE, (e.2.map (·.1)).Nodup ∧ (∀ k ∈ e.2.map (·.1), k ∈ keysAll) ∧ e.2.length ≤ 100 ∧ 0 ≤ e.1.1 + e.1.2.1 ∧ e.1.1 + e.1.2.1 ≤ 100 ∧ (e.2.map (·.2)).sum = 3 ^ (e.1.1 + e.1.2.1).toNat := by decide +kernel
theorem lenR_sum : ∀ rest : List Dn, lenR rest = ((rest.map fun r => (r.1, r.2.1)).map fun e : Pe => e.2.length).sum
  | [] => rfl
  | r :: rs => by rw [lenR_c, lenR_sum rs]; rfl
theorem read_rest {n : Nat} {d : Int} {cols : List (Fin 3 × Int)} {rest : List Dn} {t : List (Int × Int)} (hn : 150 ≤ n) (hd : d ∈ degs) (hcol : cols ∈ allCols) (hr : (rest.map fun r => ((r.1, r.2.1) : Pe)) = deg d) (hf : ∀ r ∈ rest, fits (-r.2.2) = true) (hv : ∀ k, vl t k = valR rest k) (htn : (t.map (·.1)).Nodup) (htk : ∀ k ∈ t.map (·.1), k ∈ keysAll) (hlen : t.length ≤ 700) :
    ∃ b', (Ev.at ft n).call (Str.ofString "_law_read") [.dict (toV t), .list (colV cols), .dict (prV rest)] = some (.dict (toV (outs (srtR (fun p => rkOf cols p.1.2.1) (toTd cols rest)))), b') := by
  obtain ⟨c1, c2, c3⟩ := col_ok d hd cols hcol
  obtain ⟨d1, d2, d3, d4⟩ := deg_ok d hd
  have hperm := srtR_perm (fun p : Ent × Int => rkOf cols p.1.2.1) (toTd cols rest)
  have hmap : (srtR (fun p : Ent × Int => rkOf cols p.1.2.1) (toTd cols rest)).map (·.1) = srtE cols d := by
    rw [srtR_map (fun p : Ent × Int => rkOf cols p.1.2.1) (fun e : Ent => rkOf cols e.2.1) (·.1) (fun _ => rfl), srtE, ← hr]
    congr 1
    unfold toTd
    rw [List.map_map, List.map_map]; rfl
  have hcodes : (rest.map fun r => cd r.1).Nodup := by
    have := d1
    rw [← hr, List.map_map] at this
    exact this
  have hrl : rest.length ≤ 5 := by rw [← List.length_map (as := rest) (f := fun r => ((r.1, r.2.1) : Pe)), hr]; exact d3
  refine read_eq hn hcol (fun k => by rw [hv, tdVal_perm hperm, tdVal_toTd]) htn htk ?_ ?_ ?_ ?_ ?_ ?_
  · rw [tdLen_perm hperm, tdLen_toTd, lenR_sum, hr]; omega
  · have := c3
    rw [← hmap, List.map_map] at this
    exact this
  · intro p hp
    have hp1 : p.1 ∈ srtE cols d := by rw [← hmap]; exact List.mem_map.mpr ⟨p, hp, rfl⟩
    obtain ⟨r, hrm, rfl⟩ := List.mem_map.mp (hperm.mem_iff.mp hp)
    refine ⟨c1 _ hp1, ?_, hf r hrm⟩
    exact lookE_mem' (es := prV rest) (by rw [prV, List.map_map]; exact hcodes) (List.mem_map.mpr ⟨r, hrm, rfl⟩)
  · have := c2
    rw [← hmap, List.pairwise_map] at this
    exact this
  · rw [prV, List.length_map]; omega
  · rw [hperm.length_eq, prV, toTd, List.length_map, List.length_map]; exact Nat.le_refl _
theorem eqD_perm {a b : List (Int × Int)} (hp : a.Perm b) (hn : (b.map (·.1)).Nodup) : eqD (toV a) (toV b) = true := by
  unfold eqD
  rw [toV_len, toV_len, hp.length_eq, beq_self_eq_true, Bool.true_and]
  refine subI_self (by rw [toV_fst]; exact hn) (fun p hm => ?_) (intE_toV a)
  obtain ⟨q, hq, rfl⟩ := List.mem_map.mp hm
  exact List.mem_map.mpr ⟨q, hp.mem_iff.mp hq, rfl⟩
theorem cmp_ne_dict {a b : List (Int × Int)} (hp : a.Perm b) (hn : (b.map (·.1)).Nodup) : cmpV .NotEq (.dict (toV a)) (.dict (toV b)) = some false := by
  show (if (intE (toV a) && intE (toV b)) = true then some (!eqD (toV a) (toV b)) else none) = _
  rw [intE_toV, intE_toV, eqD_perm hp hn]; rfl
theorem cmp_eq_dict {a b : List (Int × Int)} (hp : a.Perm b) (hn : (b.map (·.1)).Nodup) : cmpV .Eq (.dict (toV a)) (.dict (toV b)) = some true := by
  show (if (intE (toV a) && intE (toV b)) = true then some (eqD (toV a) (toV b)) else none) = _
  rw [intE_toV, intE_toV, eqD_perm hp hn]; rfl
end Mine
end
/-! PuH -/
section
set_option maxRecDepth 100000
set_option linter.unusedVariables false
namespace Mine
open PySem
theorem ls9 {l : List Stmt} {a b d e i j k m o : Stmt} (h : l = [a, b, d, e, i, j, k, m, o]) : l = [stAt l 0, stAt l 1, stAt l 2, stAt l 3, stAt l 4, stAt l 5, stAt l 6, stAt l 7, stAt l 8] := by rw [h]; rfl
theorem law_core {n : Nat} {x : V} {cs : List Int} {o o2 : Bool} {d : Int} {ps qs : List V} {lp : Loc} {es tk tb wd : V} (hn : 200 ≤ n) (hd : 1 + cs.sum.fmod 4 = d) (hdm : d ∈ degs)
    (h0 : (Ev.at ft (n + 36)).call (Str.ofString "_law_cells") [x] = some (.list (cs.map V.int), o))
    (h4 : compG (Ev.at ft (n + 32)) (lcS lwX) (lcE lwX) (lcG lwX) [.int d, .int (w2 d)] lwC0 = some (ps, lp)) (hps : ps.length ≤ 1000)
    (h5 : (Ev.at ft (n + 31)).call (Str.ofString "_law_drawn") [.list (cs.map V.int), .list ps] = some (.tup [es, tk, tb], false))
    (h7 : ∀ k : Int, ∃ cv rd, (∀ m, 200 ≤ m → (Ev.at ft m).call (Str.ofString "_law_columns") [.int k] = some (cv, false)) ∧ (∀ m, 200 ≤ m → ∃ o, (Ev.at ft m).call (Str.ofString "_law_read") [tb, cv, es] = some (rd, o)) ∧ cmpV .NotEq rd tk = some false)
    (hcut : cutV (.list ps) none (some (.int d)) = some (.list qs))
    (h8 : ∀ k : Int, ∃ cv rd, (∀ m, 200 ≤ m → (Ev.at ft m).call (Str.ofString "_law_columns") [.int k] = some (cv, false)) ∧ (∀ m, 200 ≤ m → ∃ o, (Ev.at ft m).call (Str.ofString "_law_read") [.dict (storeE (storeE (storeE [] (100 * d) (.int 1)) (10 * d) (.int 1)) d (.int 1)), cv, es] = some (rd, o)) ∧ cmpV .Eq rd wd = some true)
    (hwar : (Ev.at ft (n + 27)).call (Str.ofString "_law_waring") [.list qs] = some (wd, o2)) :
    (Ev.at ft (n + 40)).call (Str.ofString "law") [x] = some (.bool true, false) := by
  obtain ⟨cv1, rd1, a1, a2, a3⟩ := h7 (cs.sum.fdiv 4)
  obtain ⟨cv2, rd2, b1, b2, b3⟩ := h7 (cs.sum.fdiv 192)
  obtain ⟨cv3, rd3, c1, c2, c3⟩ := h8 (cs.sum.fdiv 4)
  have l1 := lw_lap (n := n + 30) (cs.sum.fdiv 4) es tk tb cv1 rd1 (some (x, false)) (some (.list (cs.map V.int), false)) (some (.int cs.sum, false)) (some (.int d, false)) (some (.list [.int d, .int (w2 d)], false)) (some (.list ps, false)) none (by first | exact nle (by decide) | omega) (fun m hm => a1 m (by first | exact nle (by decide) | omega)) (fun m hm => a2 m (by first | exact nle (by decide) | omega)) a3
  have l2 := lw_lap (n := n + 30) (cs.sum.fdiv 192) es tk tb cv2 rd2 (some (x, false)) (some (.list (cs.map V.int), false)) (some (.int cs.sum, false)) (some (.int d, false)) (some (.list [.int d, .int (w2 d)], false)) (some (.list ps, false)) (some (.int (cs.sum.fdiv 4), false)) (by first | exact nle (by decide) | omega) (fun m hm => b1 m (by first | exact nle (by decide) | omega)) (fun m hm => b2 m (by first | exact nle (by decide) | omega)) b3
  obtain ⟨L, l3⟩ := lw_8 (n := n) cs.sum d es tk tb cv3 rd3 wd ps qs o2 true (some (x, false)) (some (.list (cs.map V.int), false)) (some (.list [.int d, .int (w2 d)], false)) (some (.int (cs.sum.fdiv 192), false)) hcut (fun m hm => c1 m (by first | exact nle (by decide) | omega)) (fun m hm => c2 m (by first | exact nle (by decide) | omega)) hwar c3
  show (Ev.at ft (n + 40)).call (S "law") _ = _
  rw [call_at (g := "law") rfl rfl, ls9 (l := bdOf "law") rfl, lw_start,
    execs_cons, lw_0 (n := n + 18) x _ o _ _ _ _ _ _ _ h0, thn_next,
    execs_next (lw_1 _ _ _ _ _ _ _ _ _ (by first | exact nle (by decide) | omega)),
    execs_next (lw_2 _ _ _ _ _ _ _ _ (by first | exact nle (by decide) | omega)), hd,
    execs_next (lw_3 d _ _ _ _ _ _ _ (by first | exact nle (by decide) | omega) hdm),
    execs_cons, lw_4 (n := n + 4) d (w2 d) ps lp false _ _ _ _ _ _ _ h4 hps, thn_next,
    execs_cons, lw_5 (n := n + 13) _ _ _ o _ _ _ _ none _ _ h5, thn_next,
    execs_next (lw_6 _ _ _ _ _ _ _ _ (by first | exact nle (by decide) | omega)),
    execs_cons, exec_for (rfl : stAt (bdOf "law") 7 = .For _ _ _ [] _) rfl, lw_iter _ _ _ _ _ _ _ _ (by first | exact nle (by decide) | omega), Option.bind_some]
  rw [show lapOf (Ev.at ft (n + 30)) (scOf "law") (forT (stAt (bdOf "law") 7)) (forB (stAt (bdOf "law") 7)) = lapAt (n + 30) "law" 7 from rfl]
  dsimp only
  rw [forL_next l1, forL_next l2, forL_nil, thn_next, l3, retOf_ret]
end Mine
end
/-! PuI -/
section
set_option maxRecDepth 100000
set_option linter.unusedVariables false
namespace Mine
open PySem
theorem vl_tabR : ∀ (rest : List Dn) (tb : List (Int × Int)) (k : Int), (∀ r ∈ rest, (r.2.1.map (·.1)).Nodup) → vl (tabR tb rest) k = vl tb k + valR rest k
  | [], tb, k, _ => by show vl tb k = vl tb k + 0; omega
  | r :: rs, tb, k, h => by
    have ih := vl_tabR rs (addI tb (timesI r.2.1 r.2.2)) k (fun q hq => h q (.tail _ hq))
    rw [vl_addI k (by rw [timesI_keys]; exact h r (.head _)), vl_timesI] at ih
    show vl (tabR (addI tb (timesI r.2.1 r.2.2)) rs) k = vl tb k + (r.2.2 * vl r.2.1 k + valR rs k)
    rw [ih, Int.mul_comm]; omega
theorem tabR_keys : ∀ (rest : List Dn) (tb : List (Int × Int)), (∀ r ∈ rest, (r.2.1.map (·.1)).Nodup) → (∀ r ∈ rest, ∀ k ∈ r.2.1.map (·.1), k ∈ keysAll) → (∀ k ∈ tb.map (·.1), k ∈ keysAll) → ∀ k ∈ (tabR tb rest).map (·.1), k ∈ keysAll
  | [], tb, _, _, h => h
  | r :: rs, tb, hn, hk, h => tabR_keys rs (addI tb (timesI r.2.1 r.2.2)) (fun q hq => hn q (.tail _ hq)) (fun q hq => hk q (.tail _ hq)) (fun k hm => by
      rw [addI_keys (by rw [timesI_keys]; exact hn r (.head _)), List.mem_append, List.mem_filter, timesI_keys] at hm
      rcases hm with hm | hm
      · exact h k hm
      · exact hk r (.head _) k hm.1)
theorem tkR_nodup : ∀ {rest : List Dn}, (rest.map fun r => cd r.1).Nodup → ((tkR rest).map (·.1)).Nodup
  | [], _ => List.nodup_nil
  | r :: rs, h => by
    rw [List.map_cons, List.nodup_cons] at h
    rw [tkR_c]
    split
    · exact tkR_nodup h.2
    · rw [List.map_cons, List.nodup_cons]
      exact ⟨fun hm => h.1 (tkR_keys rs _ hm), tkR_nodup h.2⟩
theorem outs_srt (cols : List (Fin 3 × Int)) (rest : List Dn) : (outs (srtR (fun p => rkOf cols p.1.2.1) (toTd cols rest))).Perm (tkR rest) := by
  have := outs_perm (srtR_perm (fun p : Ent × Int => rkOf cols p.1.2.1) (toTd cols rest))
  rw [outs_toTd] at this
  exact this
/-- the drawn ones of a degree -/
noncomputable def drawR (d : Int) (cs : List Int) : List Dn := (deg d).zipWith (fun e y => (e.1, e.2, nmOf y)) cs
theorem zip_pe : ∀ (l : List Pe) (cs : List Int), l.length ≤ cs.length → ((l.zipWith (fun e y => ((e.1, e.2, nmOf y) : Dn)) cs).map fun r => ((r.1, r.2.1) : Pe)) = l
  | [], _, _ => rfl
  | e :: l, [], h => absurd h (by simp)
  | e :: l, y :: cs, h => by
    rw [List.zipWith_cons_cons, List.map_cons, zip_pe l cs (by simpa using h)]
theorem zip_get : ∀ (l : List Pe) (cs : List Int) (i : Nat) (r : Dn), (l.zipWith (fun e y => ((e.1, e.2, nmOf y) : Dn)) cs)[i]? = some r → ∃ e y, l[i]? = some e ∧ cs[i]? = some y ∧ r = (e.1, e.2, nmOf y) := by
  intro l cs i r h
  rw [List.getElem?_zipWith] at h
  cases h1 : l[i]? with
  | none => rw [h1] at h; cases h
  | some e =>
    cases h2 : cs[i]? with
    | none => rw [h1, h2] at h; cases h
    | some y => rw [h1, h2] at h; cases h; exact ⟨e, y, rfl, rfl, rfl⟩
theorem nm_bound {y : Int} (h0 : 0 ≤ y) (h1 : y ≤ 100000000) : fits (y - 9) = true ∧ fits (nmOf y) = true ∧ fits (-(nmOf y)) = true := by
  have hm : y.fmod 2 = 0 ∨ y.fmod 2 = 1 := by
    have a := Int.fmod_nonneg_of_pos y (b := 2) (by decide)
    have b := Int.fmod_lt_of_pos y (b := 2) (by decide)
    omega
  have hn : nmOf y = y - 9 ∨ nmOf y = -(y - 9) := by
    unfold nmOf
    rcases hm with h | h <;> rw [h]
    · left; omega
    · right; omega
  unfold fits
  simp only [Bool.and_eq_true, decide_eq_true_eq]
  rcases hn with h | h <;> rw [h] <;> omega
noncomputable def warC (d : Int) (i : Nat) : Int := match d, i with
  | 1, 0 => 1
  | 2, 0 => -2
  | 2, 1 => 1
  | 3, 0 => 3
  | 3, 1 => -3
  | 3, 2 => 1
  | 4, 0 => 2
  | 4, 1 => 4
  | 4, 2 => -4
  | 4, 3 => 1
  | _, _ => 0
/-- Waring's coefficients, a nought for the products of the lower degree -/
noncomputable def warR (d : Int) : List Dn := (deg d).mapIdx fun i e => (e.1, e.2, warC d i)
noncomputable def powT (d : Int) : List (Int × Int) := [(100 * d, 1), (10 * d, 1), (d, 1)]
theorem war_shape : ∀ d ∈ degs, ((warR d).map fun r => ((r.1, r.2.1) : Pe)) = deg d ∧ (∀ r ∈ warR d, fits (-r.2.2) = true) ∧ (∀ k ∈ keysAll, vl (powT d) k = valR (warR d) k) ∧ ((powT d).map (·.1)).Nodup ∧ (∀ k ∈ (powT d).map (·.1), k ∈ keysAll) ∧ tkR (warR d) = war d ∧ ((war d).map (·.1)).Nodup := by decide +kernel
theorem pow_dict : ∀ d ∈ degs, (V.dict (storeE (storeE (storeE [] (100 * d) (.int 1)) (10 * d) (.int 1)) d (.int 1))) = .dict (toV (powT d)) := by
  intro d hd
  simp only [degs, List.mem_cons, List.not_mem_nil, or_false] at hd
  rcases hd with rfl | rfl | rfl | rfl <;> rfl
theorem valR_zero {rest : List Dn} {k : Int} (h : ∀ r ∈ rest, k ∉ r.2.1.map (·.1)) : valR rest k = 0 := by
  induction rest with
  | nil => rfl
  | cons r rs ih =>
    show r.2.2 * vl r.2.1 k + valR rs k = 0
    rw [vl_zero (h r (.head _)), ih (fun q hq => h q (.tail _ hq))]; omega
theorem rest_pe {d : Int} {rest : List Dn} (hr : (rest.map fun r => ((r.1, r.2.1) : Pe)) = deg d) {r : Dn} (h : r ∈ rest) : ((r.1, r.2.1) : Pe) ∈ deg d := by
  rw [← hr]; exact List.mem_map.mpr ⟨r, h, rfl⟩
theorem rest_codes {d : Int} {rest : List Dn} (hd : d ∈ degs) (hr : (rest.map fun r => ((r.1, r.2.1) : Pe)) = deg d) : (rest.map fun r => cd r.1).Nodup := by
  have := (deg_ok d hd).1
  rw [← hr, List.map_map] at this
  exact this
theorem war_val {d : Int} (hd : d ∈ degs) (k : Int) : vl (powT d) k = valR (warR d) k := by
  obtain ⟨a1, a2, a3, a4, a5, a6, a7⟩ := war_shape d hd
  by_cases hk : k ∈ keysAll
  · exact a3 k hk
  · rw [vl_zero (fun h => hk (a5 k h)), valR_zero]
    intro r hr h
    exact hk ((pe_ok _ ((deg_ok d hd).2.2.2 _ (rest_pe a1 hr))).2.1 k h)
/-- a reading of drawn ones, against their list -/
theorem read_perm {d : Int} {rest prs : List Dn} {t : List (Int × Int)} (hd : d ∈ degs) (hr : (rest.map fun r => ((r.1, r.2.1) : Pe)) = deg d) (hp : (prs.map fun r => ((r.1, r.2.1) : Pe)) = deg d) (hf : ∀ r ∈ rest, fits (-r.2.2) = true) (hv : ∀ k, vl t k = valR rest k) (htn : (t.map (·.1)).Nodup) (htk : ∀ k ∈ t.map (·.1), k ∈ keysAll) (hlen : t.length ≤ 700) (k : Int) :
    ∃ (cv : V) (m : List (Int × Int)), m.Perm (tkR rest) ∧ (∀ q, 200 ≤ q → (Ev.at ft q).call (Str.ofString "_law_columns") [.int k] = some (cv, false)) ∧ (∀ q, 200 ≤ q → ∃ o, (Ev.at ft q).call (Str.ofString "_law_read") [.dict (toV t), cv, .dict (prV prs)] = some (.dict (toV m), o)) := by
  obtain ⟨cols, hc, e⟩ := columns_eq k
  have hpr : prV prs = prV rest := by
    have : ∀ l : List Dn, prV l = (l.map fun r => ((r.1, r.2.1) : Pe)).map fun e => (cd e.1, V.dict (toV e.2)) := fun l => by rw [List.map_map]; rfl
    rw [this, this, hp, hr]
  refine ⟨_, _, outs_srt cols rest, fun q hq => e q (by first | exact nle (by decide) | omega), fun q hq => ?_⟩
  rw [hpr]
  exact read_rest (by first | exact nle (by decide) | omega) hd hc hr hf hv htn htk hlen
theorem drawn_at {m lv n : Nat} {cs vs : List V} {rest : List Dn} (hm : m = n + 134) (hlv : lv = n + 124) (hlen : vs.length = rest.length) (hl : rest.length ≤ 90) (hf : ∀ i r, rest[i]? = some r → lapFit lv cs vs i r) (hnd : (rest.map fun r => cd r.1).Nodup) (hb : lenR rest ≤ 900) (hs : ∀ r ∈ rest, (r.2.1.map (·.2)).sum = 3 ^ (r.1.1 + r.1.2.1).toNat) :
    (Ev.at ft m).call (Str.ofString "_law_drawn") [.list cs, .list vs] = some (.tup [.dict (prV rest), .dict (toV (tkR rest)), .dict (toV (tabR [] rest))], false) := by
  subst hm hlv; exact drawn_eq hlen hl hf hnd hb hs
theorem law_at {n m0 m4 m5 mw ml : Nat} {x : V} {cs : List Int} {o o2 : Bool} {d : Int} {ps qs : List V} {lp : Loc} {es tk tb wd : V} (e0 : m0 = n + 36) (e4 : m4 = n + 32) (e5 : m5 = n + 31) (ew : mw = n + 27) (el : ml = n + 40) (hn : 200 ≤ n) (hd : 1 + cs.sum.fmod 4 = d) (hdm : d ∈ degs)
    (h0 : (Ev.at ft m0).call (Str.ofString "_law_cells") [x] = some (.list (cs.map V.int), o))
    (h4 : compG (Ev.at ft m4) (lcS lwX) (lcE lwX) (lcG lwX) [.int d, .int (w2 d)] lwC0 = some (ps, lp)) (hps : ps.length ≤ 1000)
    (h5 : (Ev.at ft m5).call (Str.ofString "_law_drawn") [.list (cs.map V.int), .list ps] = some (.tup [es, tk, tb], false))
    (h7 : ∀ k : Int, ∃ cv rd, (∀ m, 200 ≤ m → (Ev.at ft m).call (Str.ofString "_law_columns") [.int k] = some (cv, false)) ∧ (∀ m, 200 ≤ m → ∃ o, (Ev.at ft m).call (Str.ofString "_law_read") [tb, cv, es] = some (rd, o)) ∧ cmpV .NotEq rd tk = some false)
    (hcut : cutV (.list ps) none (some (.int d)) = some (.list qs))
    (h8 : ∀ k : Int, ∃ cv rd, (∀ m, 200 ≤ m → (Ev.at ft m).call (Str.ofString "_law_columns") [.int k] = some (cv, false)) ∧ (∀ m, 200 ≤ m → ∃ o, (Ev.at ft m).call (Str.ofString "_law_read") [.dict (storeE (storeE (storeE [] (100 * d) (.int 1)) (10 * d) (.int 1)) d (.int 1)), cv, es] = some (rd, o)) ∧ cmpV .Eq rd wd = some true)
    (hwar : (Ev.at ft mw).call (Str.ofString "_law_waring") [.list qs] = some (wd, o2)) :
    (Ev.at ft ml).call (Str.ofString "law") [x] = some (.bool true, false) := by
  subst e0 e4 e5 ew el; exact law_core hn hd hdm h0 h4 hps h5 h7 hcut h8 hwar
theorem item_at {vs : List V} {i : Nat} {w : V} (hi : i < 1000000) (h : vs[i]? = some w) : itemV (.list vs) (.int (i : Int)) = some w := by
  show (if (decide ((0 : Int) ≤ (i : Int)) && decide ((i : Int) < 1000000)) = true then vs[i]? else none) = some w
  rw [if_pos (by simp only [Bool.and_eq_true, decide_eq_true_eq]; omega)]
  exact h
theorem pure_law (ns : List Int) (h : ns.length ≤ 63) : lawAt 400 ns = some (.bool true, false) := by
  obtain ⟨cs, hl, hb, hcells⟩ := cells_eq (n := 396) (by first | exact nle (by decide) | omega) h
  obtain ⟨d, hd⟩ : ∃ d, d = 1 + cs.sum.fmod 4 := ⟨_, rfl⟩
  have hdm : d ∈ degs := by
    have a := Int.fmod_nonneg_of_pos cs.sum (b := 4) (by decide)
    have b := Int.fmod_lt_of_pos cs.sum (b := 4) (by decide)
    have : d = 1 ∨ d = 2 ∨ d = 3 ∨ d = 4 := by omega
    simp only [degs, List.mem_cons, List.not_mem_nil, or_false]
    exact this
  obtain ⟨d1, d2, d3, d4⟩ := deg_ok d hdm
  obtain ⟨a1, a2, a3, a4, a5, a6, a7⟩ := war_shape d hdm
  obtain ⟨lp, hpow⟩ := isP_eq (pow_ok d hdm)
  obtain ⟨vs, hvs⟩ : ∃ vs, vs = ((deg d).map (·.1)).map pwV := ⟨_, rfl⟩
  rw [← hvs] at hpow
  have hvl : vs.length = (deg d).length := by rw [hvs, List.length_map, List.length_map]
  obtain ⟨o2, hwar⟩ := isD_eq (war_ok d hdm)
  have hpe : ((drawR d cs).map fun r => ((r.1, r.2.1) : Pe)) = deg d := zip_pe _ _ (by first | exact nle (by decide) | omega)
  have hdl : (drawR d cs).length = (deg d).length := by rw [← hpe, List.length_map]
  have hdl5 : (drawR d cs).length ≤ 5 := by rw [hdl]; exact d3
  have hw : ∀ r ∈ drawR d cs, ∃ y ∈ cs, r.2.2 = nmOf y := by
    intro r hr
    obtain ⟨i, hi⟩ := List.mem_iff_getElem?.mp hr
    obtain ⟨e, y, _, h2, rfl⟩ := zip_get _ _ _ _ hi
    exact ⟨y, List.mem_of_getElem? h2, rfl⟩
  have hnd : ∀ r ∈ drawR d cs, (r.2.1.map (·.1)).Nodup := fun r hr => (pe_ok _ (d4 _ (rest_pe hpe hr))).1
  have hfit : ∀ r ∈ drawR d cs, fits (-r.2.2) = true := by
    intro r hr
    obtain ⟨y, hy, e⟩ := hw r hr
    rw [e]
    exact (nm_bound (hb y hy).1 (hb y hy).2).2.2
  have hlap : ∀ i r, (drawR d cs)[i]? = some r → lapFit 381 (cs.map V.int) vs i r := by
    intro i r hi
    obtain ⟨e, y, h1, h2, rfl⟩ := zip_get _ _ _ _ hi
    have hy := hb y (List.mem_of_getElem? h2)
    obtain ⟨f1, f2, f3⟩ := nm_bound hy.1 hy.2
    have hi1 : i < (deg d).length := (List.getElem?_eq_some_iff.mp h1).1
    have hem : e ∈ allE := d4 e (List.mem_of_getElem? h1)
    obtain ⟨p1, p2, p3, p4, p5, p6⟩ := pe_ok e hem
    have hi6 : i < 1000000 := Nat.lt_of_lt_of_le hi1 (Nat.le_trans d3 (by decide))
    refine ⟨?_, ⟨y, ?_, rfl, f1⟩, f2, isD_eq (prod_ok e hem), p1, p3, p4, p5⟩
    · exact item_at hi6 (by rw [hvs, List.getElem?_map, List.getElem?_map, h1]; rfl)
    · exact item_at hi6 (by rw [List.getElem?_map, h2]; rfl)
  have hsum : ∀ r ∈ drawR d cs, (r.2.1.map (·.2)).sum = 3 ^ (r.1.1 + r.1.2.1).toNat := fun r hr => (pe_ok _ (d4 _ (rest_pe hpe hr))).2.2.2.2.2
  have hlen : lenR (drawR d cs) ≤ 100 := by rw [lenR_sum, hpe]; exact d2
  have hdrawn := drawn_at (m := 391) (lv := 381) (n := 257) rfl rfl (cs := cs.map V.int) (vs := vs) (rest := drawR d cs) (hvl.trans hdl.symm) (Nat.le_trans hdl5 (by decide)) hlap (rest_codes hdm hpe) (Nat.le_trans hlen (by decide)) hsum
  have htl := tabR_length (drawR d cs) []
  rw [List.length_nil] at htl
  refine law_at (n := 360) (m0 := 396) (m4 := 392) (m5 := 391) (mw := 387) (ml := 400) rfl rfl rfl rfl rfl (by decide) hd.symm hdm hcells hpow (by rw [hvl]; exact Nat.le_trans d3 (by decide)) hdrawn ?_ (qs := vs.take d.toNat) ?_ ?_ (wd := .dict (toV (war d))) (o2 := o2) ?_
  · intro k
    obtain ⟨cv, m, hm, hc, hr⟩ := read_perm (t := tabR [] (drawR d cs)) hdm hpe hpe hfit (fun k => by rw [vl_tabR _ _ _ hnd]; show 0 + _ = _; omega) (tabR_nodup _ _ List.nodup_nil) (tabR_keys _ _ hnd (fun r hr => (pe_ok _ (d4 _ (rest_pe hpe hr))).2.1) (by simp)) (by first | exact nle (by decide) | omega) k
    exact ⟨cv, _, hc, hr, cmp_ne_dict hm (tkR_nodup (rest_codes hdm hpe))⟩
  · have h4 : 0 ≤ d ∧ d < 1000000 := by
      simp only [degs, List.mem_cons, List.not_mem_nil, or_false] at hdm; omega
    have hs : small vs.length = true := small_of (by rw [hvl]; exact Nat.le_trans d3 (by decide))
    exact (if_pos (by rw [hs, decide_eq_true h4.1, decide_eq_true h4.2]; rfl) : (if (decide (0 ≤ d) && decide (d < 1000000) && small vs.length) = true then some (V.list (vs.take d.toNat)) else none) = _)
  · intro k
    obtain ⟨cv, m, hm, hc, hr⟩ := read_perm (t := powT d) hdm a1 hpe a2 (war_val hdm) a4 a5 (show 3 ≤ 700 by omega) k
    rw [pow_dict d hdm]
    rw [a6] at hm
    exact ⟨cv, _, hc, hr, cmp_eq_dict hm a7⟩
  · rw [hvs, List.map_map]; exact hwar
end Mine
end
/-! Fin2 -/
open PySem PySem.W PyProof.Rows
set_option Elab.async false
set_option maxRecDepth 100000 
set_option maxHeartbeats 8000000 
namespace Mine
theorem law39 : ft (Str.ofString "law") = some fdL := by with_unfolding_all rfl
theorem law_execs {ns : List Int} {n : Nat} {b : Bool} (h : lawAt (n + 1) ns = some (.bool true, b)) : ∃ l', (Ev.at ft n).execs fdL.scope fdL.body (fLoc fdL [.src (ns.map .int)]) = some (.ret (.bool true) b, l') := by
  have h : callStep (Ev.at ft n) ft (Str.ofString "law") [.src (ns.map .int)] = some (.bool true, b) := h
  unfold callStep at h
  rw [law39] at h
  dsimp only at h
  split at h
  · split at h
    · rename_i hx
      cases h
      exact ⟨_, hx⟩
    · cases h
  · cases h
theorem law_run {ns : List Int} (h : ns.length ≤ 63) : ∃ l', (Ev.at ft 399).execs fdL.scope fdL.body (fLoc fdL [.src (ns.map .int)]) = some (.ret (.bool true) false, l') := law_execs (n := 399) (pure_law ns h)
end Mine
open Mine
theorem PySem.Challenge.cw_xh0052_01_holds : PySem.Challenge.rw_xh0052_01.Holds := by
  w_on
  o_law
  o_head (kHook myK [3, 27, 28, 34, 35, 37, 38] (fun _ => by kernel_rfl))
  case hw => w_witness2
  k_go0
  rename World => w
  rename (myK _).In _ => KX
  rename List Int => ns
  rename Top _ _ _ _ _ _ => T
  rename Fr _ _ _ _ => F
  rename IntsAre _ _ => hI
  rename Heap.IsList _ _ _ => hL
  rename _ = #[] => hgens
  rename ¬ _ => hlen
  obtain ⟨FI, FC, ok⟩ := cls39 _
  have tp := top_of (c := ⟨PySem.Challenge.rw_xh0052_01.row.prog, w, _, 38⟩) T KX ok (defs_of (by with_unfolding_all rfl) (by with_unfolding_all rfl)) (built39 _) (by with_unfolding_all rfl) (fun fd h => by unfold fdC; rw [h]; rfl) ⟨38, _, by decide, by with_unfolding_all rfl⟩
  obtain ⟨l', hx⟩ := law_run (ns := ns) (by omega)
  refine law_walk tp (fd := fdL) (xs := _) rfl F (by with_unfolding_all rfl) (by with_unfolding_all rfl) (script := Str.ofString "script") (by with_unfolding_all rfl) (by with_unfolding_all rfl) rfl rfl rfl rfl (by with_unfolding_all rfl) hL hI ⟨rfl, (by show 1 + claimMargin + 1 + 399 + 10 < recursionLimit; decide +kernel), (by show 4 + 3 + 8 * 399 + 80 < cLine; decide +kernel)⟩ hx rfl _ _ fun h' tk' k => ?_
  exact ⟨.inl ⟨.bool true, .bool true, [], rfl, fun _ => by with_unfolding_all rfl, .bool true, by with_unfolding_all rfl, fun _ => ⟨List.nodup_nil, fun _ q => nomatch q⟩⟩, k, rfl, hgens⟩
