import PyProof.Rows.All
import Wide.All
import OpenK.AllK
import Wide.FinOn
import Lean
import PySem.Challenge.RW_iu0023_01
set_option Elab.async false
set_option genSizeOf false
set_option genSizeOfSpec false
set_option genInjectivity false
section
set_option autoImplicit false
namespace Mine
open PySem PySem.W PySem.Calls PyProof.Rows

/-- plain data of the walk -/
inductive V where
  | undef | none | bool (b : Bool) | int (i : Int) | str (x : Str)
  | self | cst (a : Nat) | bi (n : String) | ty (n : String)
  | am (s : Str) (sub res : Int)
  | rng (a b c : Int)
  | lst (vs : List V) | tup (vs : List V)

structure Tel where
  cur : Str
  cursor : Int
  limit : Int
  lb : Int
  bra : Int
  ket : Int
  meas : Int
  pre : Int

noncomputable def fields : List Str := ["current", "cursor", "limit", "limit_backward", "bra", "ket", "I_measure", "I_prefix"]
noncomputable def fldIx (x : Str) : Option Nat := fields.findIdx? (· == x)
noncomputable def Tel.vals (t : Tel) : List V := [.str t.cur, .int t.cursor, .int t.limit, .int t.lb, .int t.bra, .int t.ket, .int t.meas, .int t.pre]
noncomputable def Tel.get (t : Tel) (x : Str) : Option V := match fldIx x with
  | some i => t.vals[i]?
  | none => none
noncomputable def asI : V → Option Int
  | .int a => some a
  | _ => none
noncomputable def asS : V → Option Str
  | .str a => some a
  | _ => none
noncomputable def Tel.setI (t : Tel) (v : V) : Nat → Option Tel
  | 0 => (asS v).map fun a => { t with cur := a }
  | 1 => (asI v).map fun a => { t with cursor := a }
  | 2 => (asI v).map fun a => { t with limit := a }
  | 3 => (asI v).map fun a => { t with lb := a }
  | 4 => (asI v).map fun a => { t with bra := a }
  | 5 => (asI v).map fun a => { t with ket := a }
  | 6 => (asI v).map fun a => { t with meas := a }
  | 7 => (asI v).map fun a => { t with pre := a }
  | _ => none
noncomputable def Tel.set (t : Tel) (x : Str) (v : V) : Option Tel := match fldIx x with
  | some i => t.setI v i
  | none => none

structure Fn where
  ps : List Str
  body : List Stmt
  scope : Scope

structure Summ where
  dep : Nat
  f : ∀ {R : Type}, List V → Tel → (V → Tel → Option R) → Option R

/-- what the walk knows of the top -/
structure Wd where
  glob : List (Str × V)
  blt : List (Str × V)
  attr : List (Str × V)
  meth : List (Str × Nat)
  fn : Nat → Option Fn
  sums : Nat → Option Summ
  sets : Nat → Option (List Str)
  dicts : Nat → Option (List (Str × V))
  exc : List (Str × Nat)
  cls : Nat

structure Sg where
  sc : Scope
  d : Nat
  loc : List (Str × V)
  tel : Tel

noncomputable def lookV (x : Str) : List (Str × V) → Option V
  | [] => none
  | (y, v) :: r => match x == y with
    | true => (match v with | .undef => none | v => some v)
    | false => lookV x r
noncomputable def putV (x : Str) (v : V) : List (Str × V) → Option (List (Str × V))
  | [] => none
  | (y, u) :: r => match x == y with
    | true => some ((y, v) :: r)
    | false => match putV x v r with
      | some r' => some ((y, u) :: r')
      | none => none
noncomputable def Sg.put (σ : Sg) (x : Str) (v : V) : Option Sg := match σ.sc.names.lookup x with
  | some .local => (match putV x v σ.loc with | some l => some { σ with loc := l } | none => none)
  | _ => none

structure Ks (R : Type) where
  next : Sg → Option R
  ret : V → Sg → Option R
  brk : Sg → Option R
  cont : Sg → Option R
  exc : Nat → Sg → Option R

inductive Task (R : Type) where
  | ev (e : Expr) (σ : Sg) (k : V → Sg → Option R)
  | evs (es : List Expr) (σ : Sg) (k : List V → Sg → Option R)
  | opt (e : Option Expr) (σ : Sg) (k : Option Int → Sg → Option R)
  | tst (e : Expr) (σ : Sg) (k : Bool → Sg → Option R)
  | tsts (op : BoolOp) (es : List Expr) (σ : Sg) (k : Bool → Sg → Option R)
  | exs (l : List Stmt) (σ : Sg) (k : Ks R)
  | whl (t : Expr) (b : List Stmt) (σ : Sg) (k : Ks R)
  | fors (t : Expr) (items : List V) (b : List Stmt) (σ : Sg) (k : Ks R)
  | call (a : Nat) (args : List V) (σ : Sg) (k : V → Sg → Option R)

section
variable {R : Type}
noncomputable def asL : V → Option (List V)
  | .lst a => some a
  | _ => none
noncomputable def asC : V → Option Nat
  | .cst a => some a
  | _ => none
noncomputable def binI (op : Operator) (x y : Int) (k : V → Option R) : Option R := match op with
  | .Add => k (.int (x + y))
  | .Sub => k (.int (x - y))
  | .RShift => (match decide (y = 1) with | true => k (.int (x / 2)) | false => none)
  | _ => none
noncomputable def isAdd : Operator → Bool
  | .Add => true
  | _ => false
noncomputable def addS (x : Str) (b : V) (k : V → Option R) : Option R := match asS b with
  | some y => (match Nat.ble (x.length + y.length) 1000000 with | true => k (.str (x ++ y)) | false => none)
  | none => none
noncomputable def addL (x : List V) (b : V) (k : V → Option R) : Option R := match asL b with
  | some y => (match Nat.ble (x.length + y.length) 1000 with | true => k (.lst (x ++ y)) | false => none)
  | none => none
noncomputable def addV (a b : V) (k : V → Option R) : Option R := match asS a with
  | some x => addS x b k
  | none => (match asL a with | some x => addL x b k | none => none)
noncomputable def binV (op : Operator) (a b : V) (k : V → Option R) : Option R := match asI a with
  | some x => (match asI b with | some y => binI op x y k | none => none)
  | none => (match isAdd op with
    | true => addV a b k
    | false => none)
noncomputable def sliceV (vs : List V) (lo hi : Option Int) : List V := (sliceRange (sliceBounds lo hi none vs.length).1 (sliceBounds lo hi none vs.length).2.1 (sliceBounds lo hi none vs.length).2.2).filterMap (vs[·]?)
noncomputable def isStrs : List V → Option (List Str)
  | [] => some []
  | .str x :: r => (match isStrs r with | some l => some (x :: l) | none => none)
  | _ => none
noncomputable def inS (wd : Wd) (x : Str) (b : V) : Option Bool := match asL b with
  | some vs => (match isStrs vs with | some l => some (l.any (· == x)) | none => none)
  | none => (match asC b with
    | some s => (match wd.sets s with | some l => some (l.any (· == x)) | none => none)
    | none => none)
noncomputable def cmpI (op : CmpOp) (x y : Int) : Option Bool := match op with
  | .Eq => some (decide (x = y))
  | .NotEq => some (!decide (x = y))
  | .Lt => some (decide (x < y))
  | .LtE => some (decide (x ≤ y))
  | .Gt => some (decide (y < x))
  | .GtE => some (decide (y ≤ x))
  | _ => none
noncomputable def cmpS (wd : Wd) (op : CmpOp) (x : Str) (b : V) : Option Bool := match op with
  | .Eq => (match asS b with | some y => some (x == y) | none => none)
  | .NotEq => (match asS b with | some y => some (!(x == y)) | none => none)
  | .In => inS wd x b
  | .NotIn => (match inS wd x b with | some c => some (!c) | none => none)
  | _ => none
noncomputable def cmpV (wd : Wd) (op : CmpOp) (a b : V) : Option Bool := match asI a with
  | some x => (match asI b with | some y => cmpI op x y | none => none)
  | none => (match asS a with | some x => cmpS wd op x b | none => none)
noncomputable def constV : Const → Option V
  | .none => some .none
  | .bool b => some (.bool b)
  | .int i => some (.int i)
  | .str x => (match Nat.ble x.length 1000000 with | true => some (.str x) | false => none)
  | _ => none
noncomputable def augV (op : Operator) (a b : V) (k : V → Option R) : Option R := match op, a, b with
  | .Add, .int x, .int y => k (.int (x + y))
  | .Sub, .int x, .int y => k (.int (x - y))
  | _, _, _ => none
noncomputable def amV (x : Str) (s : Str) (sub res : Int) : Option V :=
  match ((["s", "substring_i", "result"] : List Str).findIdx? (· == x)) with
  | some 0 => some (.str s)
  | some 1 => some (.int sub)
  | some 2 => some (.int res)
  | _ => none

noncomputable def rangeUp : Nat → Int → List V
  | 0, _ => []
  | n + 1, a => .int a :: rangeUp n (a + 1)
noncomputable def rangeDn : Nat → Int → List V
  | 0, _ => []
  | n + 1, a => .int a :: rangeDn n (a - 1)
noncomputable def itemsV (v : V) : Option (List V) := match v with
  | .rng a b 1 => some (rangeUp (b - a).toNat a)
  | .rng a b (-1) => some (rangeDn (a - b).toNat a)
  | .lst vs => some vs
  | .tup vs => some vs
  | _ => none
noncomputable def nthV : List V → Nat → Option V
  | [], _ => none
  | v :: _, 0 => some v
  | _ :: r, n + 1 => nthV r n
/-- an item at a place that is not below nought -/
noncomputable def itemV (a : V) (i : Int) (k : V → Option R) : Option R := match a with
  | .str x => (match decide (0 ≤ i) with
    | true => (match decide (i < (x.length : Int)) with
      | true => k (.str (Txt.item x i))
      | false => none)
    | false => none)
  | .lst vs => (match decide (0 ≤ i) with
    | true => (match nthV vs i.toNat with | some v => k v | none => none)
    | false => none)
  | .tup vs => (match decide (0 ≤ i) with
    | true => (match nthV vs i.toNat with | some v => k v | none => none)
    | false => none)
  | _ => none
noncomputable def lookD (x : Str) : List (Str × V) → Option V
  | [] => none
  | (y, v) :: r => match x == y with | true => some v | false => lookD x r
noncomputable def lookN (x : Str) : List (Str × Nat) → Option Nat
  | [] => none
  | (y, v) :: r => match x == y with | true => some v | false => lookN x r
noncomputable def nameV (wd : Wd) (σ : Sg) (x : Str) : Option V := match x == ("__debug__" : Str) with
  | true => none
  | false => (match σ.sc.names.lookup x with
    | some .local => lookV x σ.loc
    | some .globalImplicit => (match lookD x wd.glob with | some v => some v | none => lookD x wd.blt)
    | _ => none)
noncomputable def isStarE : Expr → Bool
  | .Starred .. => true
  | _ => false
noncomputable def argsOk (es : List Expr) : Bool := Nat.blt es.length 25 && es.all fun e => !isStarE e
noncomputable def oForm : Expr → Bool
  | .Name .. => true
  | .Constant .. => true
  | .Subscript .. => true
  | _ => false
noncomputable def nameE : Expr → Bool
  | .Name .. => true
  | _ => false
noncomputable def notSet : Expr → Bool
  | .Set .. => false
  | _ => true
noncomputable def notTup : Expr → Bool
  | .Tuple .. => false
  | _ => true
noncomputable def lineOf (ts : List Expr) : Nat := (ts.head?.map (·.pos.line)).getD 0
noncomputable def swapNames (sc : Scope) (ts : List Expr) : List Str := ts.filterMap fun
    | .Name id pos => if sc.names.lookup id == some .local && pos.line == lineOf ts then some id else none
    | _ => none
/-- two or three names that take a display's items: the last store first -/
noncomputable def swapOk (sc : Scope) (ts vs : List Expr) : Bool := (ts.length == 2 || ts.length == 3) && vs.length == ts.length && !(vs.any fun | .Starred .. => true | _ => false) &&
  (swapNames sc ts).length == ts.length && (swapNames sc ts).eraseDups.length == (swapNames sc ts).length && !vs.all (foldedForSure 8) && !vs.all (constantsAlone 8)
noncomputable def isFun (wd : Wd) (a : Nat) : Bool := (wd.fn a).isSome || (wd.sums a).isSome
/-- built-in functions -/
noncomputable def bi1 (n : String) (a : V) (k : V → Option R) : Option R := match n == "len" with
  | true => (match asS a with
    | some x => k (.int (x.length : Int))
    | none => (match asL a with | some vs => k (.int (vs.length : Int)) | none => none))
  | false => (match n == "ord", asS a with
    | true, some x => (match Nat.beq x.length 1 with | true => k (.int ((x.cps.getD 0 0 : Nat) : Int)) | false => none)
    | _, _ => none)
noncomputable def bi2 (n : String) (a b : V) (k : V → Option R) : Option R := match n == "min" with
  | true => (match asI a with
    | some a => (match asI b with
      | some b => (match decide (b < a) with | true => k (.int b) | false => k (.int a))
      | none => none)
    | none => none)
  | false => none
noncomputable def biV (n : String) (args : List V) (k : V → Option R) : Option R := match args with
  | [] => none
  | a :: r => (match r with
    | [] => bi1 n a k
    | b :: r => (match r with
      | [] => bi2 n a b k
      | _ :: _ => none))
noncomputable def inR (a : Int) : Bool := decide (-10 ≤ a) && decide (a ≤ 2000000)
noncomputable def rng3 (a b : Int) (c : V) (k : V → Option R) : Option R := match asI c with
  | none => none
  | some c => (match decide (c = -1) with
    | true => (match inR a, inR b with | true, true => k (.rng a b (-1)) | _, _ => none)
    | false => none)
noncomputable def rng2 (a b : Int) (r : List V) (k : V → Option R) : Option R := match r with
  | [] => (match inR a, inR b with | true, true => k (.rng a b 1) | _, _ => none)
  | c :: r => (match r with
    | [] => rng3 a b c k
    | _ :: _ => none)
noncomputable def rng1 (a : Int) (r : List V) (k : V → Option R) : Option R := match r with
  | [] => none
  | b :: r => (match asI b with
    | none => none
    | some b => rng2 a b r k)
noncomputable def rng0 (r : List V) (k : V → Option R) : Option R := match r with
  | [] => none
  | a :: r => (match asI a with
    | none => none
    | some a => rng1 a r k)
noncomputable def tyV (n : String) (args : List V) (k : V → Option R) : Option R := match n == "range" with
  | true => rng0 args k
  | false => none
/-- methods of a text -/
noncomputable def strM (x name : Str) (args : List V) : Option V := match args with
  | [.str y] => (match name == ("startswith" : Str) with
    | true => some (.bool (Txt.startswith x y))
    | false => (match name == ("endswith" : Str) with
      | true => some (.bool (Txt.endswith x y))
      | false => none))
  | [.lst vs] => (match name == ("join" : Str), isStrs vs with
    | true, some ts => (match JoinOk x ts && Nat.ble (Txt.join x ts).length 1000000 with | true => some (.str (Txt.join x ts)) | false => none)
    | _, _ => none)
  | _ => none
/-- a comprehension that looks its items up in a table of the top -/
noncomputable def compOk (sc : Scope) (y : Str) (py lp : Pos) (scope : Scope) (g x x1 : Str) : Bool :=
  sc.names.lookup y == some .local && py.line == lp.line && !(scope.names.any fun (n, k) => n == y && (k == .local || k == .cell)) && scope.kind == .function &&
  (scope.names.all fun z => z.2 != .free && z.2 != .cell && (z.2 != .local || scope.names.lookup z.1 == some .local)) && scope.names.lookup x == some .local && scope.names.lookup g == some .globalImplicit && x1 == x && !(x1 == ("__debug__" : Str)) && !(g == ("__debug__" : Str))
noncomputable def pickAll (tbl : List V) (m : Int) : List V → Option (List V)
  | [] => some []
  | .int i :: r => (match nthV tbl (i % m).toNat with
    | some v => (match pickAll tbl m r with | some l => some (v :: l) | none => none)
    | none => none)
  | _ => none
noncomputable def namesOf? : List Expr → Option (List Str)
  | [] => some []
  | .Name x _ :: r => (match namesOf? r with | some l => some (x :: l) | none => none)
  | _ => none
noncomputable def putAll : List Str → List V → Sg → Option Sg
  | [], [], σ => some σ
  | x :: xs, v :: vs, σ => (match σ.put x v with | some σ' => putAll xs vs σ' | none => none)
  | _, _, _ => none
/-- what a for's target takes -/
noncomputable def bindT (t : Expr) (v : V) (σ : Sg) : Option Sg := match t, v with
  | .Name x _, v => σ.put x v
  | .Tuple ts _ _, .tup vs => (match namesOf? ts with | some xs => putAll xs vs σ | none => none)
  | _, _ => none
noncomputable def putP : List Str → List V → List (Str × V) → Option (List (Str × V))
  | [], [], l => some l
  | x :: xs, v :: vs, l => (match putV x v l with | some l' => putP xs vs l' | none => none)
  | _, _, _ => none
noncomputable def locs0 (sc : Scope) : List (Str × V) := sc.names.filterMap fun x => match x.2 with | .local => some (x.1, V.undef) | _ => none
noncomputable def isSelf (wd : Wd) (σ : Sg) (o : Expr) : Bool := match o with
  | .Name x _ => (match nameV wd σ x with | some .self => true | _ => false)
  | _ => false
noncomputable def noneAll (R : Type) : Ks R := ⟨fun _ => none, fun _ _ => none, fun _ => none, fun _ => none, fun _ _ => none⟩

/-! the code's forms, each with its evidence -/
inductive ExK : Expr → Type where
  | cst (c : Const) (i : Nat) (p : Pos) : ExK (.Constant c i p)
  | name (x : Str) (p : Pos) : ExK (.Name x p)
  | attr (o : Str) (q : Pos) (a : Str) (p : Pos) : ExK (.Attribute (.Name o q) a p)
  | bin (l : Expr) (op : Operator) (r : Expr) (p : Pos) : ExK (.BinOp l op r p)
  | neg (x : Expr) (p : Pos) : ExK (.UnaryOp .USub x p)
  | cmp (l : Expr) (op : CmpOp) (r : Expr) (p : Pos) : ExK (.Compare l [op] [r] p)
  | ife (t b o : Expr) (p : Pos) : ExK (.IfExp t b o p)
  | tup (es : List Expr) (i : Nat) (p : Pos) : ExK (.Tuple es i p)
  | lst (es : List Expr) (p : Pos) : ExK (.List es p)
  | slc (a : Expr) (l u : Option Expr) (q p : Pos) : ExK (.Subscript a (.Slice l u none q) p)
  | sub (a i : Expr) (p : Pos) : ExK (.Subscript a i p)
  | meth (o : Expr) (name : Str) (apos : Pos) (e₁ : Expr) (args : List Expr) (pos : Pos) : ExK (.Call (.Attribute o name apos) (e₁ :: args) [] pos)
  | meth0 (o : Expr) (name : Str) (apos pos : Pos) : ExK (.Call (.Attribute o name apos) [] [] pos)
  | call (f : Str) (q : Pos) (e₁ : Expr) (args : List Expr) (pos : Pos) : ExK (.Call (.Name f q) (e₁ :: args) [] pos)
  | call0 (f : Str) (q pos : Pos) : ExK (.Call (.Name f q) [] [] pos)
  | other (e : Expr) : ExK e
noncomputable def exK : (e : Expr) → ExK e
  | .Constant c i p => .cst c i p
  | .Name x p => .name x p
  | .Attribute (.Name o q) a p => .attr o q a p
  | .BinOp l op r p => .bin l op r p
  | .UnaryOp .USub x p => .neg x p
  | .Compare l [op] [r] p => .cmp l op r p
  | .IfExp t b o p => .ife t b o p
  | .Tuple es i p => .tup es i p
  | .List es p => .lst es p
  | .Subscript a (.Slice l u none q) p => .slc a l u q p
  | .Subscript a i p => .sub a i p
  | .Call (.Attribute o name apos) (e₁ :: args) [] pos => .meth o name apos e₁ args pos
  | .Call (.Attribute o name apos) [] [] pos => .meth0 o name apos pos
  | .Call (.Name f q) (e₁ :: args) [] pos => .call f q e₁ args pos
  | .Call (.Name f q) [] [] pos => .call0 f q pos
  | e => .other e
noncomputable def evF (wd : Wd) (rec : Task R → Option R) : {e : Expr} → ExK e → Sg → (V → Sg → Option R) → Option R
  | _, .cst c _ _, σ, k => (match constV c with | some v => k v σ | none => none)
  | _, .name x _, σ, k => (match nameV wd σ x with | some v => k v σ | none => none)
  | _, .attr o _ a _, σ, k => (match nameV wd σ o with
      | some .self => (match σ.tel.get a with | some v => k v σ | none => none)
      | some (.am s i r) => (match amV a s i r with | some v => k v σ | none => none)
      | some (.cst c) => (match c == wd.cls with
        | true => (match lookD a wd.attr with | some v => k v σ | none => none)
        | false => none)
      | _ => none)
  | _, .bin l op r _, σ, k => rec (.ev l σ fun a σ => rec (.ev r σ fun b σ => binV op a b fun v => k v σ))
  | _, .neg x _, σ, k => rec (.ev x σ fun v σ => match v with | .int i => k (.int (-i)) σ | _ => none)
  | _, .cmp l op r _, σ, k => (match notSet r with
      | true => rec (.ev l σ fun a σ => rec (.ev r σ fun b σ => match cmpV wd op a b with | some c => k (.bool c) σ | none => none))
      | false => none)
  | _, .ife t b o _, σ, k => rec (.tst t σ fun c σ => match c with | true => rec (.ev b σ k) | false => rec (.ev o σ k))
  | _, .tup es _ _, σ, k => (match argsOk es with
      | true => rec (.evs es σ fun vs σ => k (.tup vs) σ)
      | false => none)
  | _, .lst es _, σ, k => (match argsOk es with
      | true => rec (.evs es σ fun vs σ => k (.lst vs) σ)
      | false => none)
  | _, .slc a l u _ _, σ, k => rec (.ev a σ fun v σ => rec (.opt l σ fun lv σ => rec (.opt u σ fun uv σ => match v with
        | .str x => k (.str (Txt.slice x lv uv)) σ
        | .lst vs => (match nameE a, Nat.ble (sliceV vs lv uv).length 1000 with | true, true => k (.lst (sliceV vs lv uv)) σ | _, _ => none)
        | _ => none)))
  | _, .sub a i _, σ, k => rec (.ev a σ fun v σ => rec (.ev i σ fun j σ => match v, j with
        | .cst c, .str x => (match nameE a, wd.dicts c with
          | true, some l => (match lookD x l with | some v => k v σ | none => none)
          | _, _ => none)
        | .lst vs, .int j => (match nameE a with | true => itemV (.lst vs) j fun r => k r σ | false => none)
        | .tup vs, .int j => itemV (.tup vs) j fun r => k r σ
        | .str x, .int j => itemV (.str x) j fun r => k r σ
        | _, _ => none))
  | _, .meth o name apos e₁ args pos, σ, k => (match argsOk (e₁ :: args) && oForm o && apos.endLine == pos.line with
      | true => rec (.ev o σ fun v σ => match v with
        | .self => (match lookN name wd.meth with
          | some a => rec (.evs (e₁ :: args) σ fun vs σ => rec (.call a (.self :: vs) σ k))
          | none => none)
        | .str x => rec (.evs (e₁ :: args) σ fun vs σ => match strM x name vs with | some r => k r σ | none => none)
        | _ => none)
      | false => none)
  | _, .meth0 o name apos pos, σ, k => (match oForm o && apos.endLine == pos.line with
      | true => rec (.ev o σ fun v σ => match v with
        | .self => (match lookN name wd.meth with
          | some a => rec (.call a [.self] σ k)
          | none => none)
        | _ => none)
      | false => none)
  | _, .call f _ e₁ args _, σ, k => (match argsOk (e₁ :: args), nameV wd σ f with
      | true, some (.cst a) => rec (.evs (e₁ :: args) σ fun vs σ => rec (.call a vs σ k))
      | true, some (.bi m) => rec (.evs (e₁ :: args) σ fun vs σ => biV m vs fun r => k r σ)
      | true, some (.ty m) => rec (.evs (e₁ :: args) σ fun vs σ => tyV m vs fun r => k r σ)
      | _, _ => none)
  | _, .call0 f _ _, σ, k => (match nameV wd σ f with
      | some (.cst a) => rec (.call a [] σ k)
      | _ => none)
  | _, .other _, _, _ => none
inductive TsK : Expr → Type where
  | not (x : Expr) (p : Pos) : TsK (.UnaryOp .Not x p)
  | bools (op : BoolOp) (vs : List Expr) (p : Pos) : TsK (.BoolOp op vs p)
  | cmp (l : Expr) (op : CmpOp) (r : Expr) (p : Pos) : TsK (.Compare l [op] [r] p)
  | name (x : Str) (p : Pos) : TsK (.Name x p)
  | cst (c : Const) (i : Nat) (p : Pos) : TsK (.Constant c i p)
  | call (f : Expr) (as : List Expr) (ks : List (Keyword)) (p : Pos) : TsK (.Call f as ks p)
  | other (e : Expr) : TsK e
noncomputable def tsK : (e : Expr) → TsK e
  | .UnaryOp .Not x p => .not x p
  | .BoolOp op vs p => .bools op vs p
  | .Compare l [op] [r] p => .cmp l op r p
  | .Name x p => .name x p
  | .Constant c i p => .cst c i p
  | .Call f as ks p => .call f as ks p
  | e => .other e
noncomputable def tstF (wd : Wd) (rec : Task R → Option R) : {e : Expr} → TsK e → Sg → (Bool → Sg → Option R) → Option R
  | _, .not x _, σ, k => rec (.tst x σ fun b σ => k (!b) σ)
  | _, .bools op vs _, σ, k => rec (.tsts op vs σ k)
  | _, .cmp l op r _, σ, k => (match notSet r with
      | true => rec (.ev l σ fun a σ => rec (.ev r σ fun b σ => match cmpV wd op a b with | some c => k c σ | none => none))
      | false => none)
  | _, .name x p, σ, k => rec (.ev (.Name x p) σ fun v σ => match v with | .bool b => k b σ | _ => none)
  | _, .cst c i p, σ, k => rec (.ev (.Constant c i p) σ fun v σ => match v with | .bool b => k b σ | _ => none)
  | _, .call f as ks p, σ, k => rec (.ev (.Call f as ks p) σ fun v σ => match v with | .bool b => k b σ | _ => none)
  | _, .other _, _, _ => none
inductive StK : Stmt → Type where
  | pass (p : Pos) : StK (.Pass p)
  | brk (p : Pos) : StK (.Break p)
  | cont (p : Pos) : StK (.Continue p)
  | expr (e : Expr) (p : Pos) : StK (.Expr e p)
  | ret (e : Expr) (p : Pos) : StK (.Return (some e) p)
  | comp (y : Str) (py : Pos) (g : Str) (p1 : Pos) (x1 : Str) (p2 : Pos) (m : Int) (kk : Nat) (p3 p4 p5 : Pos) (x : Str) (p6 : Pos) (iter : Expr) (scope : Scope) (lp q : Pos) :
      StK (.Assign [.Name y py] (.ListComp (.Subscript (.Name g p1) (.BinOp (.Name x1 p2) .Mod (.Constant (.int m) kk p3) p4) p5) [⟨.Name x p6, iter, [], 0⟩] scope lp) q)
  | asg (x : Str) (p : Pos) (e : Expr) (q : Pos) : StK (.Assign [.Name x p] e q)
  | fld (o : Expr) (a : Str) (p : Pos) (e : Expr) (q : Pos) : StK (.Assign [.Attribute o a p] e q)
  | swap (ts : List Expr) (i : Nat) (p : Pos) (vs : List Expr) (j : Nat) (p' q : Pos) : StK (.Assign [.Tuple ts i p] (.Tuple vs j p') q)
  | tup (ts : List Expr) (i : Nat) (p : Pos) (e : Expr) (q : Pos) : StK (.Assign [.Tuple ts i p] e q)
  | augN (x : Str) (p : Pos) (op : Operator) (e : Expr) (q : Pos) : StK (.AugAssign (.Name x p) op e q)
  | augF (o : Expr) (a : Str) (p : Pos) (op : Operator) (e : Expr) (q : Pos) : StK (.AugAssign (.Attribute o a p) op e q)
  | ite (t : Expr) (b o : List Stmt) (q : Pos) : StK (.If t b o q)
  | whl (t : Expr) (b : List Stmt) (q : Pos) : StK (.While t b [] q)
  | loop (t it : Expr) (b : List Stmt) (q : Pos) : StK (.For t it b [] q)
  | tryE (b : List Stmt) (x : Str) (p : Pos) (p1 p2 : Pos) (q : Pos) : StK (.Try b [.ExceptHandler (some (.Name x p)) none [.Pass p1] p2] [] [] q)
  | raise (x : Str) (p p1 q : Pos) : StK (.Raise (some (.Call (.Name x p) [] [] p1)) none q)
  | assert (t : Expr) (q : Pos) : StK (.Assert t none q)
  | other (st : Stmt) : StK st
noncomputable def stK : (st : Stmt) → StK st
  | .Pass p => .pass p
  | .Break p => .brk p
  | .Continue p => .cont p
  | .Expr e p => .expr e p
  | .Return (some e) p => .ret e p
  | .Assign [.Name y py] (.ListComp (.Subscript (.Name g p1) (.BinOp (.Name x1 p2) .Mod (.Constant (.int m) kk p3) p4) p5) [⟨.Name x p6, iter, [], 0⟩] scope lp) q => .comp y py g p1 x1 p2 m kk p3 p4 p5 x p6 iter scope lp q
  | .Assign [.Name x p] e q => .asg x p e q
  | .Assign [.Attribute o a p] e q => .fld o a p e q
  | .Assign [.Tuple ts i p] (.Tuple vs j p') q => .swap ts i p vs j p' q
  | .Assign [.Tuple ts i p] e q => .tup ts i p e q
  | .AugAssign (.Name x p) op e q => .augN x p op e q
  | .AugAssign (.Attribute o a p) op e q => .augF o a p op e q
  | .If t b o q => .ite t b o q
  | .While t b [] q => .whl t b q
  | .For t it b [] q => .loop t it b q
  | .Try b [.ExceptHandler (some (.Name x p)) none [.Pass p1] p2] [] [] q => .tryE b x p p1 p2 q
  | .Raise (some (.Call (.Name x p) [] [] p1)) none q => .raise x p p1 q
  | .Assert t none q => .assert t q
  | st => .other st
noncomputable def exsF (wd : Wd) (rec : Task R → Option R) (go : Sg → Option R) : {st : Stmt} → StK st → Sg → Ks R → Option R
  | _, .pass _, σ, _ => go σ
  | _, .brk _, σ, k => k.brk σ
  | _, .cont _, σ, k => k.cont σ
  | _, .expr e _, σ, _ => rec (.ev e σ fun _ σ => go σ)
  | _, .ret e _, σ, k => rec (.ev e σ k.ret)
  | _, .comp y py g _ x1 _ m _ _ _ _ x _ iter scope lp _, σ, _ =>
        (match compOk σ.sc y py lp scope g x x1 && decide (0 < m), lookD g wd.glob with
        | true, some (.lst tbl) => rec (.ev iter σ fun v σ => match v with
          | .lst vs => (match pickAll tbl m vs with
            | some us => (match Nat.ble us.length 1000, σ.put y (.lst us) with | true, some σ => go σ | _, _ => none)
            | none => none)
          | _ => none)
        | _, _ => none)
  | _, .asg x _ e _, σ, _ => rec (.ev e σ fun v σ => match σ.put x v with | some σ => go σ | none => none)
  | _, .fld o a _ e _, σ, _ => (match isSelf wd σ o with
        | true => rec (.ev e σ fun v σ => match σ.tel.set a v with | some t => go { σ with tel := t } | none => none)
        | false => none)
  | _, .swap ts _ _ vs _ _ _, σ, _ => (match swapOk σ.sc ts vs && argsOk vs with
        | true => rec (.evs vs σ fun vs σ => match putAll (swapNames σ.sc ts).reverse vs.reverse σ with | some σ => go σ | none => none)
        | false => none)
  | _, .tup ts _ _ e _, σ, _ => (match notTup e, namesOf? ts with
        | true, some xs => rec (.ev e σ fun v σ => match v with
          | .tup vs => (match putAll xs vs σ with | some σ => go σ | none => none)
          | _ => none)
        | _, _ => none)
  | _, .augN x _ op e _, σ, _ => (match nameV wd σ x with
        | some v => rec (.ev e σ fun u σ => augV op v u fun r => match σ.put x r with | some σ => go σ | none => none)
        | none => none)
  | _, .augF o a _ op e _, σ, _ => (match isSelf wd σ o with
        | true => (match σ.tel.get a with
          | some v => rec (.ev e σ fun u σ => augV op v u fun r => match σ.tel.set a r with | some t => go { σ with tel := t } | none => none)
          | none => none)
        | false => none)
  | _, .ite t b o _, σ, k => rec (.tst t σ fun c σ => match c with
        | true => rec (.exs b σ { k with next := go })
        | false => rec (.exs o σ { k with next := go }))
  | _, .whl t b _, σ, k => rec (.whl t b σ { k with next := go, exc := fun _ _ => none })
  | _, .loop t it b _, σ, k => rec (.ev it σ fun v σ => match itemsV v with
        | some items => rec (.fors t items b σ { k with next := go, exc := fun _ _ => none })
        | none => none)
  | _, .tryE b x _ _ _ _, σ, k => (match lookN x wd.exc, σ.sc.names.lookup x with
        | some c, some .globalImplicit => rec (.exs b σ { k with next := go, exc := fun c' σ => match c == c' with | true => go σ | false => none })
        | _, _ => none)
  | _, .raise x _ _ _, σ, k => (match lookN x wd.exc, σ.sc.names.lookup x with
        | some c, some .globalImplicit => k.exc c σ
        | _, _ => none)
  | _, .assert t _, σ, _ => rec (.tst t σ fun c σ => match c with | true => go σ | false => none)
  | _, .other _, _, _ => none
noncomputable def evsF (rec : Task R → Option R) (es : List Expr) (σ : Sg) (k : List V → Sg → Option R) : Option R := match es with
  | [] => k [] σ
  | e :: r => rec (.ev e σ fun v σ => rec (.evs r σ fun vs σ => k (v :: vs) σ))
noncomputable def optF (rec : Task R → Option R) (e : Option Expr) (σ : Sg) (k : Option Int → Sg → Option R) : Option R := match e with
  | none => k none σ
  | some e => rec (.ev e σ fun v σ => match v with | .int i => k (some i) σ | _ => none)
noncomputable def tstsF (rec : Task R → Option R) (op : BoolOp) (es : List Expr) (σ : Sg) (k : Bool → Sg → Option R) : Option R := match es with
  | [] => none
  | e :: es => (match es with
    | [] => rec (.tst e σ k)
    | e' :: r => rec (.tst e σ fun b σ => match op, b with
      | .And, true => rec (.tsts op (e' :: r) σ k)
      | .And, false => k false σ
      | .Or, true => k true σ
      | .Or, false => rec (.tsts op (e' :: r) σ k)))
noncomputable def stsF (wd : Wd) (rec : Task R → Option R) (l : List Stmt) (σ : Sg) (k : Ks R) : Option R := match l with
  | [] => k.next σ
  | st :: rest => exsF wd rec (fun σ => rec (.exs rest σ k)) (stK st) σ k
noncomputable def whlF (rec : Task R → Option R) (t : Expr) (b : List Stmt) (σ : Sg) (k : Ks R) : Option R := rec (.tst t σ fun c σ => match c with
  | true => rec (.exs b σ { k with next := fun σ => rec (.whl t b σ k), cont := fun σ => rec (.whl t b σ k), brk := k.next, exc := fun _ _ => none })
  | false => k.next σ)
noncomputable def forsF (rec : Task R → Option R) (t : Expr) (items : List V) (b : List Stmt) (σ : Sg) (k : Ks R) : Option R := match items with
  | [] => k.next σ
  | v :: r => (match bindT t v σ with
    | some σ => rec (.exs b σ { k with next := fun σ => rec (.fors t r b σ k), cont := fun σ => rec (.fors t r b σ k), brk := k.next, exc := fun _ _ => none })
    | none => none)
noncomputable def callF (wd : Wd) (rec : Task R → Option R) (a : Nat) (args : List V) (σ : Sg) (k : V → Sg → Option R) : Option R := match wd.sums a with
  | some S => (match Nat.ble S.dep σ.d with
    | true => S.f args σ.tel fun v t => k v { σ with tel := t }
    | false => none)
  | none => (match wd.fn a, σ.d with
    | some F, d + 1 => (match putP F.ps args (locs0 F.scope) with
      | some l => rec (.exs F.body { sc := F.scope, d := d, loc := l, tel := σ.tel }
          { noneAll R with next := fun σ' => k .none { σ with tel := σ'.tel }, ret := fun v σ' => k v { σ with tel := σ'.tel } })
      | none => none)
    | _, _ => none)
noncomputable def run (wd : Wd) : Nat → Task R → Option R
  | 0, _ => none
  | n + 1, .ev e σ k => evF wd (run wd n) (exK e) σ k
  | n + 1, .opt e σ k => optF (run wd n) e σ k
  | n + 1, .evs es σ k => evsF (run wd n) es σ k
  | n + 1, .tst e σ k => tstF wd (run wd n) (tsK e) σ k
  | n + 1, .tsts op es σ k => tstsF (run wd n) op es σ k
  | n + 1, .exs l σ k => stsF wd (run wd n) l σ k
  | n + 1, .whl t b σ k => whlF (run wd n) t b σ k
  | n + 1, .fors t items b σ k => forsF (run wd n) t items b σ k
  | n + 1, .call a args σ k => callF wd (run wd n) a args σ k
end
end Mine
end
section
set_option autoImplicit false
namespace Mine
open PySem PySem.W PySem.Calls PyProof.Rows

noncomputable abbrev pr : Program := PySem.Challenge.pw_iu0023_01
noncomputable def stN (l : List Stmt) (i : Nat) : Stmt := l.getD i (.Pass default)
noncomputable def clsB : Stmt → List Stmt
  | .ClassDef _ _ _ b .. => b
  | _ => []
noncomputable def fnP : Stmt → Arguments
  | .FunctionDef _ a .. => a
  | _ => default
noncomputable def fnB : Stmt → List Stmt
  | .FunctionDef _ _ b .. => b
  | _ => []
noncomputable def fnS : Stmt → Scope
  | .FunctionDef _ _ _ _ _ _ s .. => s
  | _ => default
noncomputable def topSt (i : Nat) : Stmt := stN pr.main.body i
noncomputable def mSt (c i : Nat) : Stmt := stN (clsB (topSt c)) i
noncomputable def fnOfSt (s : Stmt) : Fn := ⟨(fnP s).args.map (·.arg), fnB s, fnS s⟩

/-- address, where its def stands: (class or none, place) -/
noncomputable def fnAt : List (Nat × Option Nat × Nat) := [(35, some 2, 0), (42, some 2, 1), (49, some 2, 2), (63, some 2, 4), (91, some 2, 8), (98, some 2, 9), (119, some 2, 12), (133, some 2, 14), (140, some 2, 15),
  (147, some 2, 16), (154, some 2, 17), (161, some 2, 18), (189, some 2, 22), (239, some 6, 3), (246, some 6, 4), (253, some 6, 5), (260, some 6, 6), (267, some 6, 7), (274, some 6, 8),
  (377, none, 10), (395, none, 16), (402, none, 17), (409, none, 18), (433, none, 20), (440, none, 21), (447, none, 22), (454, none, 23), (461, none, 24)]
noncomputable def fnIn (a : Nat) : Option Fn := (fnAt.lookup a).map fun x => fnOfSt (match x.1 with | some c => mSt c x.2 | none => topSt x.2)

noncomputable def tab (l : List (Str × Int × Int)) : V := .lst (l.map fun x => .am x.1 x.2.1 x.2.2)
noncomputable def a0 : List (Str × Int × Int) := [("kah", -1, 1), ("lah", -1, 1), ("pun", -1, 1)]
noncomputable def a1 : List (Str × Int × Int) := [("nya", -1, 1), ("ku", -1, 1), ("mu", -1, 1)]
noncomputable def a2 : List (Str × Int × Int) := [("i", -1, 2), ("an", -1, 1)]
noncomputable def a3 : List (Str × Int × Int) := [("di", -1, 1), ("ke", -1, 3), ("me", -1, 1), ("mem", 2, 5), ("men", 2, 2), ("meng", 4, 1), ("pem", -1, 6), ("pen", -1, 4), ("peng", 7, 3), ("ter", -1, 1)]
noncomputable def a4 : List (Str × Int × Int) := [("be", -1, 2), ("pe", -1, 1)]
noncomputable def txL (l : List Str) : V := .lst (l.map V.str)
noncomputable def opL : List Str := (["", "di", "ke", "me", "mem", "men", "meny", "meng", "pe", "pem", "pen", "peny", "peng", "ter", "be", "ber", "bel", "belajar", "beker", "per", "pel", "pelajar"] : List String).map Str.ofString
noncomputable def sgL : List Str := (["", "a", "b", "c", "d", "e", "f", "g", "h", "i", "j", "k", "l", "m", "n", "o", "p", "q", "r", "s", "t", "u", "v", "w", "x", "y", "z", "A", "é", "-", "er", "ng", "ny"] : List String).map Str.ofString
noncomputable def clL : List Str := (["", "kah", "lah", "pun", "nya", "ku", "mu", "kan", "an", "i", "si"] : List String).map Str.ofString
noncomputable def wdBase (fn : Nat → Option Fn) (sums : Nat → Option Summ) : Wd where
  glob := [("IndonesianStemmer", .cst 342), ("_law_vowels", .cst 377), ("_law_firsts", .cst 395), ("_law_sounds", .cst 402), ("_law_seconds", .cst 409), ("_law_borne", .cst 410),
    ("_law_long", .cst 433), ("_law_less", .cst 440), ("_law_first", .cst 447), ("_law_second", .cst 454), ("_law_stem", .cst 461),
    ("_law_openers", txL opL), ("_law_signs", txL sgL), ("_law_closers", txL clL),
    ("_law_particles", .lst [.tup [.str "kah", .int 3], .tup [.str "lah", .int 3], .tup [.str "pun", .int 3]]),
    ("_law_owners", .lst [.tup [.str "nya", .int 3], .tup [.str "ku", .int 2], .tup [.str "mu", .int 2]])]
  blt := [("len", .bi "len"), ("ord", .bi "ord"), ("min", .bi "min"), ("range", .ty "range")]
  attr := [("a_0", tab a0), ("a_1", tab a1), ("a_2", tab a2), ("a_3", tab a3), ("a_4", tab a4), ("g_vowel", .cst 232)]
  meth := [("__init__", 35), ("set_current", 42), ("get_current", 49), ("in_grouping", 63), ("out_grouping", 91), ("go_out_grouping", 98), ("eq_s", 119), ("find_among", 133), ("find_among_b", 140),
    ("replace_s", 147), ("slice_from", 154), ("slice_del", 161), ("stemWord", 189), ("r_remove_particle", 239), ("r_remove_possessive_pronoun", 246), ("r_remove_suffix", 253),
    ("r_remove_first_order_prefix", 260), ("r_remove_second_order_prefix", 267), ("_stem", 274)]
  fn := fn
  sums := sums
  sets := fun a => if a = 232 then some ["a", "e", "i", "o", "u"] else none
  dicts := fun a => if a = 410 then some [("", .lst [.tup [.str "kan", .int 3], .tup [.str "an", .int 2], .tup [.str "si", .int 0], .tup [.str "i", .int 1]]),
    ("di", .lst [.tup [.str "kan", .int 3], .tup [.str "si", .int 0], .tup [.str "i", .int 1]]), ("ke", .lst [.tup [.str "an", .int 2]]),
    ("per", .lst [.tup [.str "an", .int 2], .tup [.str "si", .int 0], .tup [.str "i", .int 1]]), ("ber", .lst [.tup [.str "kan", .int 3], .tup [.str "an", .int 2]])] else none
  exc := [("lab0", 354), ("lab1", 367)]
  cls := 342
end Mine
end
section
set_option autoImplicit false
set_option maxRecDepth 100000
namespace Mine
open PySem PySem.W PySem.Calls PyProof.Rows

structure Fx where
  w : World
  K : Frag
  wd : Wd
  T : Addr
  D : Addr
  CA : Addr
  p : Program
  loose : List Str
  mean : ExcName → Option Value
  mg : Str → Option Value
  mb : Str → Option Value
  Hc : Addr → Obj → Prop

noncomputable def Fx.ext (X : Fx) (nw nw' : List (Addr × Obj)) : Prop := ∀ p ∈ nw, p.1 ≠ X.D → p ∈ nw'
theorem Fx.ext.refl {X : Fx} {nw : List (Addr × Obj)} : X.ext nw nw := fun _ h _ => h
theorem Fx.ext.trans {X : Fx} {a b c : List (Addr × Obj)} (h : X.ext a b) (k : X.ext b c) : X.ext a c := fun p hp hd => k p (h p hp hd) hd
theorem Fx.ext.cons {X : Fx} {nw : List (Addr × Obj)} {q : Addr × Obj} : X.ext nw (q :: nw) := fun _ h _ => List.mem_cons_of_mem _ h

noncomputable def At (X : Fx) (nw : List (Addr × Obj)) (a : Addr) (o : Obj) : Prop := ((a, o) ∈ nw ∧ a ≠ X.D) ∨ X.Hc a o
theorem At.mono {X : Fx} {nw nw' : List (Addr × Obj)} {a : Addr} {o : Obj} (e : X.ext nw nw') (h : At X nw a o) : At X nw' a o := h.imp (fun x => ⟨e _ x.1 x.2, x.2⟩) id

/-- one of the text's Among -/
noncomputable def AmAt (X : Fx) (x : Str) (i r : Int) (a : Addr) : Prop := x.length ≤ 1000000 ∧ ∃ d es n tx ti tr, X.K.lookup a = some ⟨.ref X.CA, some d, .plain, #[]⟩ ∧ X.K.lookup d = some (dictOf es n) ∧
  getL "s" es = some (some (.str x tx)) ∧ getL "substring_i" es = some (some (.int i ti)) ∧ getL "result" es = some (some (.int r tr))

mutual
inductive VR (X : Fx) (nw : List (Addr × Obj)) : V → Value → Prop
  | undef (y : Value) : VR X nw .undef y
  | none : VR X nw .none .none
  | bool (b : Bool) : VR X nw (.bool b) (.bool b)
  | int (i : Int) (t : Tok) : VR X nw (.int i) (.int i t)
  | str (x : Str) (t : Tok) : x.length ≤ 1000000 → VR X nw (.str x) (.str x t)
  | self : VR X nw .self (.ref X.T)
  | cst (a : Addr) : VR X nw (.cst a) (.ref a)
  | bi (n : String) : VR X nw (.bi n) (.builtin n)
  | ty (n : String) : VR X nw (.ty n) (.type n)
  | am (x : Str) (i r : Int) (a : Addr) : AmAt X x i r a → VR X nw (.am x i r) (.ref a)
  | rng (a b c : Int) (t u v : Tok) (l : Addr) (o : Obj) : At X nw l o → o = { cls := .type "range", data := .fields #[.int a t, .int b u, .int c v] } → inR a = true → inR b = true → VR X nw (.rng a b c) (.ref l)
  | lst (vs : List V) (a : Addr) (o : Obj) (items : Array Value) (n : Nat) : At X nw a o → o.cls = .type "list" → o.data = .seq items n → VRs X nw vs items.toList → vs.length ≤ 1000 → VR X nw (.lst vs) (.ref a)
  | tup (vs : List V) (a : Addr) (o : Obj) (items : Array Value) (n : Nat) : At X nw a o → o.cls = .type "tuple" → o.data = .seq items n → VRs X nw vs items.toList → vs.length ≤ 1000 → VR X nw (.tup vs) (.ref a)
inductive VRs (X : Fx) (nw : List (Addr × Obj)) : List V → List Value → Prop
  | nil : VRs X nw [] []
  | cons (v : V) (y : Value) (vs : List V) (ys : List Value) : VR X nw v y → VRs X nw vs ys → VRs X nw (v :: vs) (y :: ys)
end
mutual
theorem VR.mono {X : Fx} {nw nw' : List (Addr × Obj)} (e : X.ext nw nw') : ∀ {v : V} {y : Value}, VR X nw v y → VR X nw' v y
  | _, _, .undef y => .undef y
  | _, _, .none => .none
  | _, _, .bool b => .bool b
  | _, _, .int i t => .int i t
  | _, _, .str x t h => .str x t h
  | _, _, .self => .self
  | _, _, .cst a => .cst a
  | _, _, .bi n => .bi n
  | _, _, .ty n => .ty n
  | _, _, .am x i r a h => .am x i r a h
  | _, _, .rng a b c t u v l o h1 h2 h3 h4 => .rng a b c t u v l o (h1.mono e) h2 h3 h4
  | _, _, .lst vs a o its n h1 h2 h3 h4 h5 => .lst vs a o its n (h1.mono e) h2 h3 (VRs.mono e h4) h5
  | _, _, .tup vs a o its n h1 h2 h3 h4 h5 => .tup vs a o its n (h1.mono e) h2 h3 (VRs.mono e h4) h5
theorem VRs.mono {X : Fx} {nw nw' : List (Addr × Obj)} (e : X.ext nw nw') : ∀ {vs : List V} {ys : List Value}, VRs X nw vs ys → VRs X nw' vs ys
  | _, _, .nil => .nil
  | _, _, .cons v y vs ys h1 h2 => .cons v y vs ys (VR.mono e h1) (VRs.mono e h2)
end
/-- the ledger where an iterator goes on -/
noncomputable def isIt (o : Obj) : Bool := match o.cls with
  | .type s => !((["range", "list", "tuple"] : List String).contains s)
  | _ => true
noncomputable def Fx.extW (X : Fx) (nw nw' : List (Addr × Obj)) : Prop := ∀ p ∈ nw, p.1 ≠ X.D → isIt p.2 = false → p ∈ nw'
theorem At.monoW {X : Fx} {nw nw' : List (Addr × Obj)} {a : Addr} {o : Obj} (e : X.extW nw nw') (h : At X nw a o) (ho : isIt o = false) : At X nw' a o := h.imp (fun x => ⟨e _ x.1 x.2 ho, x.2⟩) id
mutual
theorem VR.monoW {X : Fx} {nw nw' : List (Addr × Obj)} (e : X.extW nw nw') : ∀ {v : V} {y : Value}, VR X nw v y → VR X nw' v y
  | _, _, .undef y => .undef y
  | _, _, .none => .none
  | _, _, .bool b => .bool b
  | _, _, .int i t => .int i t
  | _, _, .str x t h => .str x t h
  | _, _, .self => .self
  | _, _, .cst a => .cst a
  | _, _, .bi n => .bi n
  | _, _, .ty n => .ty n
  | _, _, .am x i r a h => .am x i r a h
  | _, _, .rng a b c t u v l o h1 h2 h3 h4 => .rng a b c t u v l o (h1.monoW e (by subst h2; show (!((["range", "list", "tuple"] : List String).contains "range")) = false; decide)) h2 h3 h4
  | _, _, .lst vs a o its n h1 h2 h3 h4 h5 => .lst vs a o its n (h1.monoW e (by unfold isIt; rw [h2]; decide)) h2 h3 (VRs.monoW e h4) h5
  | _, _, .tup vs a o its n h1 h2 h3 h4 h5 => .tup vs a o its n (h1.monoW e (by unfold isIt; rw [h2]; decide)) h2 h3 (VRs.monoW e h4) h5
theorem VRs.monoW {X : Fx} {nw nw' : List (Addr × Obj)} (e : X.extW nw nw') : ∀ {vs : List V} {ys : List Value}, VRs X nw vs ys → VRs X nw' vs ys
  | _, _, .nil => .nil
  | _, _, .cons v y vs ys h1 h2 => .cons v y vs ys (VR.monoW e h1) (VRs.monoW e h2)
end
theorem VRs.length {X : Fx} {nw : List (Addr × Obj)} : ∀ {vs : List V} {ys : List Value}, VRs X nw vs ys → vs.length = ys.length
  | _, _, .nil => rfl
  | _, _, .cons _ _ _ _ _ h => congrArg (· + 1) h.length

/-! the teller's table -/
inductive EsR : List Str → (Str → Option V) → List DictEntry → Prop
  | nil (f : Str → Option V) : EsR [] f []
  | int (x : Str) (ks : List Str) (f : Str → Option V) (es : List DictEntry) (hsh : Int) (tk t : Tok) (i : Int) : f x = some (.int i) → EsR ks f es → EsR (x :: ks) f (⟨hsh, .str x tk, .int i t⟩ :: es)
  | str (x : Str) (ks : List Str) (f : Str → Option V) (es : List DictEntry) (hsh : Int) (tk t : Tok) (y : Str) : f x = some (.str y) → y.length ≤ 1000000 → EsR ks f es → EsR (x :: ks) f (⟨hsh, .str x tk, .str y t⟩ :: es)
theorem EsR.congr {f g : Str → Option V} : ∀ {ks : List Str} {es : List DictEntry}, EsR ks f es → (∀ x ∈ ks, g x = f x) → EsR ks g es
  | _, _, .nil _, _ => .nil _
  | _, _, .int x ks _ es h tk t i e r, q => .int x ks g es h tk t i ((q x (.head _)).trans e) (r.congr fun y hy => q y (.tail _ hy))
  | _, _, .str x ks _ es h tk t y e l r, q => .str x ks g es h tk t y ((q x (.head _)).trans e) l (r.congr fun y hy => q y (.tail _ hy))
theorem EsR.len {f : Str → Option V} : ∀ {ks : List Str} {es : List DictEntry}, EsR ks f es → es.length = ks.length
  | _, _, .nil _ => rfl
  | _, _, .int _ _ _ _ _ _ _ _ _ r => congrArg (· + 1) r.len
  | _, _, .str _ _ _ _ _ _ _ _ _ _ r => congrArg (· + 1) r.len
theorem isStr_eq (x y : Str) (t : Tok) : (Value.str x t).isStr y = (x == y) := rfl
theorem EsR.noRef {f : Str → Option V} : ∀ {ks : List Str} {es : List DictEntry}, EsR ks f es → es.any (·.refKey) = false
  | _, _, .nil _ => rfl
  | _, _, .int _ _ _ _ _ _ _ _ _ r => by rw [List.any_cons, r.noRef]; rfl
  | _, _, .str _ _ _ _ _ _ _ _ _ _ r => by rw [List.any_cons, r.noRef]; rfl
/-- what a field holds -/
inductive Sc : V → Value → Prop
  | int (i : Int) (t : Tok) : Sc (.int i) (.int i t)
  | str (x : Str) (t : Tok) : x.length ≤ 1000000 → Sc (.str x) (.str x t)
theorem Sc.vr {X : Fx} {nw : List (Addr × Obj)} {v : V} {y : Value} : Sc v y → VR X nw v y
  | .int i t => .int i t
  | .str x t h => .str x t h
theorem Sc.handed {v : V} {y : Value} : Sc v y → handedIn y = true
  | .int _ _ => rfl
  | .str _ _ _ => rfl
theorem EsR.find_none {f : Str → Option V} {x : Str} : ∀ {ks : List Str} {es : List DictEntry}, EsR ks f es → x ∉ ks → es.find? (·.key.isStr x) = none
  | _, _, .nil _, _ => rfl
  | _, _, .int z ks _ es _ _ _ _ _ r, h => by
    have hz : (z == x) = false := beq_eq_false_iff_ne.mpr fun q => h (q ▸ .head _)
    simp only [List.find?_cons, isStr_eq, hz]
    exact r.find_none fun q => h (.tail _ q)
  | _, _, .str z ks _ es _ _ _ _ _ _ r, h => by
    have hz : (z == x) = false := beq_eq_false_iff_ne.mpr fun q => h (q ▸ .head _)
    simp only [List.find?_cons, isStr_eq, hz]
    exact r.find_none fun q => h (.tail _ q)
theorem EsR.get_none {f : Str → Option V} {x : Str} {ks : List Str} {es : List DictEntry} (r : EsR ks f es) (h : x ∉ ks) : getL x es = some none := by
  unfold getL
  rw [r.find_none h, r.noRef]
  rfl
theorem EsR.get {f : Str → Option V} {x : Str} : ∀ {ks : List Str} {es : List DictEntry}, EsR ks f es → x ∈ ks → ∃ v y, getL x es = some (some y) ∧ f x = some v ∧ Sc v y
  | _, _, .int z ks _ es hsh tk t i e r, h => by
    cases hz : (z == x) with
    | true =>
      have q : z = x := eq_of_beq hz
      subst q
      refine ⟨_, _, ?_, e, .int i t⟩
      simp only [getL, List.find?_cons, isStr_eq, hz]
    | false =>
      have hx : x ∈ ks := by
        rcases List.mem_cons.mp h with q | q
        · exact absurd q.symm (beq_eq_false_iff_ne.mp hz)
        · exact q
      obtain ⟨v, y, h1, h2⟩ := r.get hx
      refine ⟨v, y, ?_, h2⟩
      rw [← h1]
      simp only [getL, List.find?_cons, isStr_eq, hz, List.any_cons]
      rfl
  | _, _, .str z ks _ es hsh tk t i e l r, h => by
    cases hz : (z == x) with
    | true =>
      have q : z = x := eq_of_beq hz
      subst q
      refine ⟨_, _, ?_, e, .str i t l⟩
      simp only [getL, List.find?_cons, isStr_eq, hz]
    | false =>
      have hx : x ∈ ks := by
        rcases List.mem_cons.mp h with q | q
        · exact absurd q.symm (beq_eq_false_iff_ne.mp hz)
        · exact q
      obtain ⟨v, y, h1, h2⟩ := r.get hx
      refine ⟨v, y, ?_, h2⟩
      rw [← h1]
      simp only [getL, List.find?_cons, isStr_eq, hz, List.any_cons]
      rfl
theorem EsR.put_new {f g : Str → Option V} {x : Str} {hsh : Int} {tk : Tok} {v : V} {y : Value} (sc : Sc v y) (gx : g x = some v) : ∀ {ks : List Str} {es : List DictEntry}, EsR ks f es → (∀ z ∈ ks, g z = f z) → x ∉ ks → EsR (ks ++ [x]) g (putL x hsh (.str x tk) y es)
  | _, _, .nil _, _, _ => by
    cases sc with
    | int i t => exact .int _ _ _ _ _ _ _ _ gx (.nil _)
    | str i t l => exact .str _ _ _ _ _ _ _ _ gx l (.nil _)
  | _, _, .int z ks _ es h2 tk2 t i e r, q, h => by
    have hz : (z == x) = false := beq_eq_false_iff_ne.mpr fun q => h (q ▸ .head _)
    show EsR (z :: (ks ++ [x])) g (if (z == x) = true then _ else _)
    rw [hz, if_neg (by decide)]
    exact .int _ _ _ _ _ _ _ _ ((q z (.head _)).trans e) (r.put_new sc gx (fun y hy => q y (.tail _ hy)) fun q => h (.tail _ q))
  | _, _, .str z ks _ es h2 tk2 t i e l r, q, h => by
    have hz : (z == x) = false := beq_eq_false_iff_ne.mpr fun q => h (q ▸ .head _)
    show EsR (z :: (ks ++ [x])) g (if (z == x) = true then _ else _)
    rw [hz, if_neg (by decide)]
    exact .str _ _ _ _ _ _ _ _ ((q z (.head _)).trans e) l (r.put_new sc gx (fun y hy => q y (.tail _ hy)) fun q => h (.tail _ q))
theorem EsR.put_old {f g : Str → Option V} {x : Str} {hsh : Int} {tk : Tok} {v : V} {y : Value} (sc : Sc v y) (gx : g x = some v) : ∀ {ks : List Str} {es : List DictEntry}, EsR ks f es → (∀ z ∈ ks, z ≠ x → g z = f z) → ks.Nodup → x ∈ ks → EsR ks g (putL x hsh (.str x tk) y es)
  | _, _, .int z ks _ es h2 tk2 t i e r, q, nd, h => by
    obtain ⟨nz, nd⟩ := List.nodup_cons.mp nd
    show EsR (z :: ks) g (if (z == x) = true then _ else _)
    cases hz : (z == x) with
    | true =>
      have q' : z = x := eq_of_beq hz
      subst q'
      rw [if_pos rfl]
      have r' := r.congr (g := g) fun y hy => q y (.tail _ hy) fun c => nz (c ▸ hy)
      cases sc with
      | int i t => exact .int _ _ _ _ _ _ _ _ gx r'
      | str i t l => exact .str _ _ _ _ _ _ _ _ gx l r'
    | false =>
      rw [if_neg (by decide)]
      have hx : x ∈ ks := by
        rcases List.mem_cons.mp h with q | q
        · exact absurd q.symm (beq_eq_false_iff_ne.mp hz)
        · exact q
      exact .int _ _ _ _ _ _ _ _ ((q z (.head _) (beq_eq_false_iff_ne.mp hz)).trans e) (r.put_old sc gx (fun y hy => q y (.tail _ hy)) nd hx)
  | _, _, .str z ks _ es h2 tk2 t i e l r, q, nd, h => by
    obtain ⟨nz, nd⟩ := List.nodup_cons.mp nd
    show EsR (z :: ks) g (if (z == x) = true then _ else _)
    cases hz : (z == x) with
    | true =>
      have q' : z = x := eq_of_beq hz
      subst q'
      rw [if_pos rfl]
      have r' := r.congr (g := g) fun y hy => q y (.tail _ hy) fun c => nz (c ▸ hy)
      cases sc with
      | int i t => exact .int _ _ _ _ _ _ _ _ gx r'
      | str i t l => exact .str _ _ _ _ _ _ _ _ gx l r'
    | false =>
      rw [if_neg (by decide)]
      have hx : x ∈ ks := by
        rcases List.mem_cons.mp h with q | q
        · exact absurd q.symm (beq_eq_false_iff_ne.mp hz)
        · exact q
      exact .str _ _ _ _ _ _ _ _ ((q z (.head _) (beq_eq_false_iff_ne.mp hz)).trans e) l (r.put_old sc gx (fun y hy => q y (.tail _ hy)) nd hx)
end Mine
end
section
set_option autoImplicit false
set_option maxRecDepth 100000
namespace Mine
open PySem PySem.W PySem.Calls PyProof.Rows

/-! the teller's fields -/
theorem fldIx_at {x : Str} {i : Nat} (h : fldIx x = some i) : fields[i]? = some x := by
  unfold fldIx at h
  rw [List.findIdx?_eq_some_iff_getElem] at h
  obtain ⟨hi, he, _⟩ := h
  rw [List.getElem?_eq_getElem hi]
  exact congrArg some (eq_of_beq he)
theorem fldIx_none {x : Str} (h : fldIx x = none) : x ∉ fields := by
  unfold fldIx at h
  rw [List.findIdx?_eq_none_iff] at h
  intro hx
  have := h x hx
  simp at this
theorem fldIx_inj {x y : Str} {i : Nat} (h : fldIx x = some i) (k : fldIx y = some i) : x = y := Option.some.inj ((fldIx_at h).symm.trans (fldIx_at k))
theorem fldIx_mem {x : Str} {i : Nat} (h : fldIx x = some i) : x ∈ fields := List.mem_of_getElem? (fldIx_at h)
theorem fldIx_lt {x : Str} {i : Nat} (h : fldIx x = some i) : i < 8 := by
  have := fldIx_at h
  rcases Nat.lt_or_ge i 8 with q | q
  · exact q
  · rw [List.getElem?_eq_none (show fields.length ≤ i from q)] at this; cases this
theorem fldIx_some {x : Str} (h : x ∈ fields) : ∃ i, fldIx x = some i := by
  cases q : fldIx x with
  | none => exact absurd h (fldIx_none q)
  | some i => exact ⟨i, rfl⟩
theorem get_mem {t : Tel} {x : Str} {v : V} (h : t.get x = some v) : x ∈ fields := by
  unfold Tel.get at h
  cases q : fldIx x with
  | none => rw [q] at h; cases h
  | some i => exact fldIx_mem q
theorem asI_ok {v : V} {a : Int} (h : asI v = some a) : v = .int a := by
  cases v <;> first | (cases h; rfl) | cases h
theorem asS_ok {v : V} {a : Str} (h : asS v = some a) : v = .str a := by
  cases v <;> first | (cases h; rfl) | cases h
theorem asL_ok {v : V} {a : List V} (h : asL v = some a) : v = .lst a := by
  cases v <;> first | (cases h; rfl) | cases h
theorem asC_ok {v : V} {a : Nat} (h : asC v = some a) : v = .cst a := by
  cases v <;> first | (cases h; rfl) | cases h
theorem isAdd_ok {op : Operator} (h : isAdd op = true) : op = .Add := by
  cases op <;> first | rfl | cases h
theorem setI_int {f : Int → Tel} {v : V} {t t' : Tel} {i : Nat} (hf : ∀ a, (f a).vals = t.vals.set i (.int a)) (h : (asI v).map f = some t') : ((∃ a, v = .int a) ∨ ∃ a, v = .str a) ∧ t'.vals = t.vals.set i v := by
  obtain ⟨a, h1, h2⟩ := Option.map_eq_some_iff.mp h
  rw [asI_ok h1, ← h2]
  exact ⟨.inl ⟨a, rfl⟩, hf a⟩
theorem setI_ok {t t' : Tel} {v : V} : ∀ {i : Nat}, t.setI v i = some t' → ((∃ a, v = .int a) ∨ ∃ a, v = .str a) ∧ t'.vals = t.vals.set i v
  | 0, h => by
    obtain ⟨a, h1, h2⟩ := Option.map_eq_some_iff.mp (show (asS v).map (fun a => { t with cur := a }) = some t' from h)
    rw [asS_ok h1, ← h2]
    exact ⟨.inr ⟨a, rfl⟩, rfl⟩
  | 1, h => setI_int (f := fun a => { t with cursor := a }) (fun _ => rfl) h
  | 2, h => setI_int (f := fun a => { t with limit := a }) (fun _ => rfl) h
  | 3, h => setI_int (f := fun a => { t with lb := a }) (fun _ => rfl) h
  | 4, h => setI_int (f := fun a => { t with bra := a }) (fun _ => rfl) h
  | 5, h => setI_int (f := fun a => { t with ket := a }) (fun _ => rfl) h
  | 6, h => setI_int (f := fun a => { t with meas := a }) (fun _ => rfl) h
  | 7, h => setI_int (f := fun a => { t with pre := a }) (fun _ => rfl) h
  | _ + 8, h => by cases h
theorem set_kind {t t' : Tel} {x : Str} {v : V} (h : t.set x v = some t') : (∃ a, v = .int a) ∨ ∃ a, v = .str a := by
  unfold Tel.set at h
  cases q : fldIx x with
  | none => rw [q] at h; cases h
  | some i => rw [q] at h; exact (setI_ok h).1
theorem set_get {t t' : Tel} {x : Str} {v : V} (h : t.set x v = some t') : x ∈ fields ∧ t'.get x = some v ∧ ∀ y, y ≠ x → t'.get y = t.get y := by
  unfold Tel.set at h
  cases q : fldIx x with
  | none => rw [q] at h; cases h
  | some i =>
    rw [q] at h
    have hv := (setI_ok h).2
    have hl : i < t.vals.length := fldIx_lt q
    refine ⟨fldIx_mem q, ?_, fun y hy => ?_⟩
    · unfold Tel.get
      rw [q]
      show t'.vals[i]? = some v
      rw [hv, List.getElem?_set_self hl]
    · unfold Tel.get
      cases e : fldIx y with
      | none => rfl
      | some j =>
        show t'.vals[j]? = t.vals[j]?
        rw [hv, List.getElem?_set_ne]
        intro hij
        subst hij
        exact hy (fldIx_inj e q)
noncomputable def f6 : List Str := ["current", "cursor", "limit", "limit_backward", "bra", "ket"]
noncomputable def shapes : List (List Str) := [f6, f6 ++ ([("I_measure" : Str)] : List Str), f6 ++ ([("I_prefix" : Str)] : List Str), f6 ++ ([("I_measure" : Str), ("I_prefix" : Str)] : List Str), f6 ++ ([("I_prefix" : Str), ("I_measure" : Str)] : List Str)]
theorem shape_facts : ∀ ks ∈ shapes, ks.Nodup ∧ ks.length ≤ 8 ∧ (∀ x ∈ ks, x ∈ fields) ∧ ∀ x ∈ fields, x ∉ ks → ks ++ [x] ∈ shapes ∧ x ∈ (["I_measure", "I_prefix"] : List Str) := by decide +kernel

inductive TelR (X : Fx) (nw : List (Addr × Obj)) (t : Tel) : Prop where
  | mk (ks : List Str) (es : List DictEntry) (n : Nat) (hk : ks ∈ shapes) (hes : EsR ks t.get es) (h0 : ∀ x ∈ fields, x ∉ ks → t.get x = some (.int 0)) (hT : (X.T, (instObj X.wd.cls X.D : Obj)) ∈ nw) (hD : (X.D, dictOf es n) ∈ nw) (hne : X.T ≠ X.D) : TelR X nw t

/-! a frame -/
structure Cx where
  A₀ : Around
  base : Heap
  outer : List Env
  L : Addr
  f : Addr
  cn : Str
  cs : Scope
  ccd : Value
  g₀ : Heap
  os : OsState
noncomputable abbrev Cx.env (c : Cx) : Env := envOf c.cn c.cs c.L c.f c.ccd
noncomputable abbrev Cx.A (c : Cx) : Around := c.A₀.deeper c.env
noncomputable abbrev Cx.fs (c : Cx) : List Addr := c.outer.filterMap (·.frame)
structure CxOk (X : Fx) (c : Cx) (d : Nat) : Prop where
  kin : X.K.In c.base
  top : Top X.p X.loose X.mean X.mg X.mb c.base
  hc : ∀ a o, X.Hc a o → c.base.get? a = some o
  fn : c.cs.kind = .function
  hd : c.A₀.handled = none
  dep : c.A.depth + d < recursionLimit
  un : c.A.units + 8 * d + 8 < cLine

noncomputable def LocR (X : Fx) (nw : List (Addr × Obj)) (loc : List (Str × V)) (m : Str → Option Value) : Prop := ∀ x v, lookV x loc = some v → ∃ y, m x = some y ∧ VR X nw v y
inductive Rel (X : Fx) (c : Cx) (nw : List (Addr × Obj)) (σ : Sg) (s : Shared) : Prop where
  | mk (g : Heap) (m : Str → Option Value) (T : KtsTurn c.fs c.g₀ g) (B : Below c.A₀ c.base c.outer g) (D : KtsDicts c.fs g) (F : Fr g c.L s.heap m) (N : News g c.L s.heap nw) (nd : (nw.map (·.1)).Nodup) (hs : c.cs = σ.sc ∧ s.gens = #[] ∧ s.os = c.os) (l : LocR X nw σ.loc m) (t : TelR X nw σ.tel) : Rel X c nw σ s

theorem LocR.mono {X : Fx} {nw nw' : List (Addr × Obj)} {loc : List (Str × V)} {m : Str → Option Value} (e : X.ext nw nw') (h : LocR X nw loc m) : LocR X nw' loc m := fun x v q => by
  obtain ⟨y, a, b⟩ := h x v q
  exact ⟨y, a, b.mono e⟩
theorem lookV_put {x : Str} {v : V} : ∀ {l l' : List (Str × V)}, putV x v l = some l' → ∀ y u, lookV y l' = some u → (y = x ∧ u = v) ∨ (y ≠ x ∧ lookV y l = some u)
  | (z, w) :: r, l', h, y, u, q => by
    unfold putV at h
    cases hz : (x == z) with
    | true =>
      rw [hz] at h
      have e : x = z := eq_of_beq hz
      subst e
      obtain rfl := Option.some.inj h
      unfold lookV at q ⊢
      cases hy : (y == x) with
      | true =>
        rw [hy] at q
        refine .inl ⟨eq_of_beq hy, ?_⟩
        cases v <;> first | exact (Option.some.inj q).symm | cases q
      | false =>
        rw [hy] at q
        exact .inr ⟨beq_eq_false_iff_ne.mp hy, q⟩
    | false =>
      rw [hz] at h
      cases hp : putV x v r with
      | none => rw [hp] at h; cases h
      | some r' =>
        rw [hp] at h
        obtain rfl := Option.some.inj h
        unfold lookV at q ⊢
        cases hy : (y == z) with
        | true =>
          rw [hy] at q
          refine .inr ⟨fun e => ?_, q⟩
          rw [e, hz] at hy
          cases hy
        | false =>
          rw [hy] at q
          exact lookV_put hp y u q
theorem put_spec {σ σ' : Sg} {x : Str} {v : V} (h : σ.put x v = some σ') : σ.sc.names.lookup x = some .local ∧ ∃ l, putV x v σ.loc = some l ∧ σ' = { σ with loc := l } := by
  unfold Sg.put at h
  split at h
  · rename_i q
    split at h
    · rename_i l hl
      exact ⟨q, l, hl, (Option.some.inj h).symm⟩
    · cases h
  · cases h
theorem TelR.mono {X : Fx} {nw nw' : List (Addr × Obj)} {t : Tel} (e : ∀ p ∈ nw, p ∈ nw') (h : TelR X nw t) : TelR X nw' t := by
  obtain ⟨ks, es, n, a, b, c, d, f, g⟩ := h
  exact ⟨ks, es, n, a, b, c, e _ d, e _ f, g⟩
theorem ext_of_sub {X : Fx} {nw nw' : List (Addr × Obj)} (e : ∀ p ∈ nw, p ∈ nw') : X.ext nw nw' := fun p h _ => e p h
end Mine
end
section
set_option autoImplicit false
set_option maxRecDepth 100000
namespace Mine
open PySem PySem.W PySem.Calls PyProof.Rows

/-- what the walk asks of the written-out top -/
structure KOk (X : Fx) : Prop where
  cget : ∀ x ∈ fields, plainGet X.K X.wd.cls x = true
  chas : hasDictIn X.K X.wd.cls = true
  cattr : ∀ x ∈ fields, ∃ attr, findIn X.K (.ref X.wd.cls) x = some attr ∧ noGet X.K attr = true
  cdef : ∀ x ∈ (["I_measure", "I_prefix"] : List Str), ∃ t, findIn X.K (.ref X.wd.cls) x = some (some (.int 0 t)) ∧ specialIn X.K (.int 0 t) "__get__" = some none ∧ copiedNames.contains x = false
  cset : findIn X.K (.ref X.wd.cls) "__setattr__" = some (some (.builtin "object.__setattr__"))
  cover : plainOver X.K X.wd.cls = true
  ctake : ∀ x ∈ fields, takerIn X.K X.wd.cls x = some none
  cga : findIn X.K (.ref X.wd.cls) "__getattribute__" = some (some (.builtin "object.__getattribute__"))
  cgx : findIn X.K (.ref X.wd.cls) "__getattr__" = some none
  cat : ∃ mc, readsIn X.K X.wd.cls mc = true ∧ ∀ x v, lookD x X.wd.attr = some v → ∃ y, findCls X.K (.ref X.wd.cls) mc x = some (.val y) ∧ handedIn y = true ∧ ∀ nw, VR X nw v y
  aget : ∀ x ∈ (["s", "substring_i", "result"] : List Str), plainGet X.K X.CA x = true ∧ ∃ attr, findIn X.K (.ref X.CA) x = some attr ∧ noGet X.K attr = true
  ahas : hasDictIn X.K X.CA = true
  glob : ∀ x v, lookD x X.wd.glob = some v → ∃ y, nsIn X.K mainGlobals x = some (some y) ∧ ∀ nw, VR X nw v y
  blt : ∀ x v, lookD x X.wd.blt = some v → nsIn X.K mainGlobals x = some none ∧ x ≠ "__name__" ∧ ∃ y, bootBuiltins x = some y ∧ ∀ nw, VR X nw v y
  meth : ∀ x a, lookN x X.wd.meth = some a → findIn X.K (.ref X.wd.cls) x = some (some (.ref a)) ∧ typeIn X.K (.ref a) = some (.type "function") ∧ x ∉ fields
  keep : ∀ a, isFun X.wd a = true → keepIn X.K (.ref a) = true
  exc : ∀ x c, lookN x X.wd.exc = some c → nsIn X.K mainGlobals x = some (some (.ref c)) ∧ excIn X.K c [.type "Exception", .type "BaseException", .type "object"] "Exception.__new__" = true ∧ ktsIn X.K c "BaseException" = true ∧ (x == ("__debug__" : Str)) = false

variable {X : Fx}

/-! a step keeps the relation where Fr and News are kept -/
theorem Rel.toks {c : Cx} {nw : List (Addr × Obj)} {σ : Sg} {s s' : Shared} (h : Rel X c nw σ s) (e : s'.heap = s.heap) (e2 : s'.gens = s.gens := by rfl) (e3 : s'.os = s.os := by rfl) : Rel X c nw σ s' := by
  obtain ⟨g, m, T, B, D, F, N, nd, hs, l, t⟩ := h
  exact ⟨g, m, T, B, D, e ▸ F, e ▸ N, nd, ⟨hs.1, e2.trans hs.2.1, e3.trans hs.2.2⟩, l, t⟩
theorem Rel.inK {c : Cx} {nw : List (Addr × Obj)} {σ : Sg} {s : Shared} (C : CxOk X c σ.d) (h : Rel X c nw σ s) : X.K.In s.heap := by
  obtain ⟨g, m, _, B, _, F, _⟩ := h
  exact (C.kin.keeps B.stays).keeps F.keep
theorem Rel.at {c : Cx} {nw : List (Addr × Obj)} {σ : Sg} {s : Shared} (C : CxOk X c σ.d) (h : Rel X c nw σ s) {a : Addr} {o : Obj} (k : At X nw a o) : s.heap.get? a = some o := by
  obtain ⟨g, m, _, B, _, F, N, _⟩ := h
  rcases k with k | k
  · exact (N _ k.1).1
  · exact F.keep _ _ (B.stays _ _ (C.hc _ _ k))
theorem Rel.isList {c : Cx} {nw : List (Addr × Obj)} {σ : Sg} {s : Shared} (C : CxOk X c σ.d) (h : Rel X c nw σ s) {a : Addr} {o : Obj} {its : Array Value} {n : Nat} (k : At X nw a o) (hc : o.cls = .type "list") (hd : o.data = .seq its n) : s.heap.IsList a its :=
  ⟨o, h.at C k, hc, n, hd⟩
theorem Rel.isTup {c : Cx} {nw : List (Addr × Obj)} {σ : Sg} {s : Shared} (C : CxOk X c σ.d) (h : Rel X c nw σ s) {a : Addr} {o : Obj} {its : Array Value} {n : Nat} (k : At X nw a o) (hc : o.cls = .type "tuple") (hd : o.data = .seq its n) : IsTup s.heap a its :=
  ⟨o, h.at C k, hc, n, hd⟩
/-- a new object that is no dict -/
theorem Rel.more {c : Cx} {nw : List (Addr × Obj)} {σ : Sg} {s' : Shared} {g : Heap} {m : Str → Option Value} {q : Addr × Obj} (T : KtsTurn c.fs c.g₀ g) (B : Below c.A₀ c.base c.outer g) (D : KtsDicts c.fs g) (F : Fr g c.L s'.heap m) (N : News g c.L s'.heap (q :: nw))
    (nd : (nw.map (·.1)).Nodup) (hq : ∀ p ∈ nw, p.1 ≠ q.1) (hs : c.cs = σ.sc ∧ s'.gens = #[] ∧ s'.os = c.os) (l : LocR X nw σ.loc m) (t : TelR X nw σ.tel) : Rel X c (q :: nw) σ s' := by
  refine ⟨g, m, T, B, D, F, N, ?_, hs, l.mono Fx.ext.cons, t.mono fun p hp => List.mem_cons_of_mem _ hp⟩
  rw [List.map_cons, List.nodup_cons]
  refine ⟨fun h => ?_, nd⟩
  obtain ⟨p, hp, e⟩ := List.mem_map.mp h
  exact hq p hp e
theorem news_fresh {g h : Heap} {L : Addr} {nw : List (Addr × Obj)} (N : News g L h nw) : ∀ p ∈ nw, p.1 ≠ h.objs.size := fun p hp e => absurd e (Nat.ne_of_lt (Heap.lt_size (N p hp).1))

/-! the judgments -/
noncomputable def SEv (X : Fx) (e : Expr) (σ : Sg) (v : V) (t : Tel) : Prop := ∀ c, CxOk X c σ.d → ∀ nw s (Q : Value → Shared → Prop) (E : Value → Shared → Prop), Rel X c nw σ s →
  (∀ nw' y s', X.ext nw nw' → Rel X c nw' { σ with tel := t } s' → VR X nw' v y → Q y s') → wpAny (model pr X.w) c.A (eval e c.env) Q E s
noncomputable def SEvs (X : Fx) (es : List Expr) (σ : Sg) (vs : List V) (t : Tel) : Prop := ∀ c, CxOk X c σ.d → ∀ pos nw s (Q : List Value → Shared → Prop) (E : Value → Shared → Prop), Rel X c nw σ s →
  (∀ nw' ys s', X.ext nw nw' → Rel X c nw' { σ with tel := t } s' → VRs X nw' vs ys → Q ys s') → wpAny (model pr X.w) c.A (spliced (backTo pos (starEach es c.env))) Q E s
noncomputable def STst (X : Fx) (e : Expr) (σ : Sg) (b : Bool) (t : Tel) : Prop := ∀ c, CxOk X c σ.d → ∀ nw s (Q : Bool → Shared → Prop) (E : Value → Shared → Prop), Rel X c nw σ s →
  (∀ nw' s', X.ext nw nw' → Rel X c nw' { σ with tel := t } s' → Q b s') → wpAny (model pr X.w) c.A (PySem.isTrue e c.env (eval e c.env)) Q E s
noncomputable def STsts (X : Fx) (op : BoolOp) (es : List Expr) (σ : Sg) (b : Bool) (t : Tel) : Prop := ∀ c, CxOk X c σ.d → ∀ nw s (Q : Bool → Shared → Prop) (E : Value → Shared → Prop), Rel X c nw σ s →
  (∀ nw' s', X.ext nw nw' → Rel X c nw' { σ with tel := t } s' → Q b s') → wpAny (model pr X.w) c.A (allTrue op es c.env) Q E s
noncomputable def SCall (X : Fx) (a : Nat) (args : List V) (d : Nat) (t₀ : Tel) (v : V) (t : Tel) : Prop := ∀ c, CxOk X c d → ∀ σ : Sg, σ.d = d → σ.tel = t₀ → ∀ nw s ys (Q : Value → Shared → Prop) (E : Value → Shared → Prop), Rel X c nw σ s → VRs X nw args ys →
  (∀ nw' y s', X.ext nw nw' → Rel X c nw' { σ with tel := t } s' → VR X nw' v y → Q y s') → wpAny (model pr X.w) c.A (PySem.call (.ref a) ys) Q E s

/-! expressions -/
theorem SEv.const {c : Const} {v : V} {σ : Sg} {kk : Nat} {pos : Pos} (h : constV c = some v) : SEv X (.Constant c kk pos) σ v σ.tel := by
  intro cx C nw s Q E r k
  cases c with
  | none => cases h; exact wpAny_pure (k nw _ _ .refl r .none)
  | bool b => cases h; exact wpAny_pure (k nw _ _ .refl r (.bool b))
  | int i => cases h; exact wpAny_Constant_int (k nw _ _ .refl (r.toks rfl) (.int i _))
  | str x =>
    unfold constV at h
    cases q : Nat.ble x.length 1000000 with
    | false => simp only [q] at h; cases h
    | true =>
      simp only [q] at h; cases h
      show wpAny _ _ (mkText x) _ _ _
      exact fun _ _ _ => k nw _ _ .refl (r.toks rfl) (.str x _ (Nat.le_of_ble_eq_true q))
  | _ => cases h
theorem SEv.name {x : Str} {v : V} {σ : Sg} {pos : Pos} (H : KOk X) (h : nameV X.wd σ x = some v) : SEv X (.Name x pos) σ v σ.tel := by
  intro cx C nw s Q E r k
  unfold nameV at h
  cases hd : (x == ("__debug__" : Str)) with
  | true => rw [hd] at h; cases h
  | false =>
    rw [hd] at h
    dsimp only at h
    have r0 := r
    obtain ⟨g, m, T, B, D, F, N, nd, hs, l, t⟩ := r
    split at h
    · rename_i hl
      obtain ⟨y, hy, hv⟩ := l x v h
      refine ld F hy (k nw _ _ .refl r0 hv) C.fn ?_ hd
      show cx.cs.names.lookup x = _
      rw [hs.1]; exact hl
    · rename_i hl
      have Tr : TopRead X.p X.loose X.mg X.mb g := topRead_of (C.top.keeps B.stays)
      have Kg : X.K.In g := C.kin.keeps B.stays
      have hk : (envOf cx.cn cx.cs cx.L cx.f cx.ccd).kindOf x = some .globalImplicit := by
        show cx.cs.names.lookup x = _
        rw [hs.1]; exact hl
      split at h
      · rename_i u hu
        cases h
        obtain ⟨y, hy, hv⟩ := H.glob x v hu
        exact name_K F Kg Tr hy (k nw _ _ .refl r0 (hv nw)) C.fn hk hd
      · obtain ⟨h1, h2, y, hy, hv⟩ := H.blt x v h
        exact name_B F Kg Tr h1 hy h2 (k nw _ _ .refl r0 (hv nw)) C.fn hk hd
    · cases h
end Mine
end
section
set_option autoImplicit false
set_option maxRecDepth 100000
namespace Mine
open PySem PySem.W PySem.Calls PyProof.Rows
variable {X : Fx}

/-! fields -/
theorem read_field {c : Cx} {nw : List (Addr × Obj)} {σ : Sg} {s : Shared} {x : Str} {v : V} {b : Bool} {Q : Value → Shared → Prop} {E : Value → Shared → Prop} (H : KOk X) (C : CxOk X c σ.d) (r : Rel X c nw σ s) (h : σ.tel.get x = some v)
    (k : ∀ y s', Rel X c nw σ s' → VR X nw v y → Q y s') : wpAny (model pr X.w) c.A (getAttr (.ref X.T) x b) Q E s := by
  have r0 := r
  obtain ⟨g, m, T, B, D, F, N, nd, hs, l, ks, es, n, hk, hes, h0, hT, hD, hne⟩ := r
  have Kg : X.K.In g := C.kin.keeps B.stays
  have I := PySem.W.InstAt.of_news N hT hD
  have hx := get_mem h
  by_cases hm : x ∈ ks
  · obtain ⟨u, y, h1, h2, h3⟩ := hes.get hm
    obtain rfl : u = v := Option.some.inj (h2.symm.trans h)
    obtain ⟨attr, ha, hb⟩ := H.cattr x hx
    exact get_own F Kg I (H.cget x hx) H.chas ha hb h1 h3.handed (k _ _ (r0.toks rfl) h3.vr)
  · obtain ⟨ks1, ks2, ks3, ks4⟩ := shape_facts ks hk
    obtain ⟨t, h1, h2, h3⟩ := H.cdef x (ks4 x hx hm).2
    obtain rfl : V.int 0 = v := Option.some.inj ((h0 x hx hm).symm.trans h)
    exact get_cls F Kg I (H.cget x hx) H.chas h1 h2 rfl h3 (hes.get_none hm) (k _ _ (r0.toks rfl) (.int 0 t))
theorem SEv.field {o x : Str} {v : V} {σ : Sg} {p pos : Pos} (H : KOk X) (ho : nameV X.wd σ o = some .self) (h : σ.tel.get x = some v) : SEv X (.Attribute (.Name o p) x pos) σ v σ.tel := by
  intro c C nw s Q E r k
  refine Attribute_Name_ (SEv.name H ho c C nw s _ E r fun nw' y s' e r' hv => ?_)
  cases hv
  exact read_field H C r' h fun y s'' r'' hv => k _ _ _ e r'' hv
theorem SEv.among {o x : Str} {v : V} {σ : Sg} {p pos : Pos} {y : Str} {i j : Int} (H : KOk X) (ho : nameV X.wd σ o = some (.am y i j)) (h : amV x y i j = some v) : SEv X (.Attribute (.Name o p) x pos) σ v σ.tel := by
  intro c C nw s Q E r k
  refine Attribute_Name_ (SEv.name H ho c C nw s _ E r fun nw' y' s' e r' hv => ?_)
  obtain ⟨a, rfl, hA⟩ : ∃ a, y' = .ref a ∧ AmAt X y i j a := by
    cases hv with
    | am _ _ _ a hA => exact ⟨a, rfl, hA⟩
  have r0 := r'
  obtain ⟨g, m, T, B, D, F, N, nd, hs, l, t⟩ := r'
  have Kg : X.K.In g := C.kin.keeps B.stays
  obtain ⟨hlen, d, es, n, tx, ti, tr, k1, k2, k3, k4, k5⟩ := hA
  have I := PySem.W.InstAt.of_K (Kg.keeps F.keep) k1 k2
  unfold amV at h
  have key : ∀ i, (["s", "substring_i", "result"] : List Str).findIdx? (· == x) = some i → x ∈ (["s", "substring_i", "result"] : List Str) ∧ ([("s" : Str), ("substring_i" : Str), ("result" : Str)] : List Str)[i]? = some x := fun i q => by
    rw [List.findIdx?_eq_some_iff_getElem] at q
    obtain ⟨hi, he, _⟩ := q
    have he' := eq_of_beq he
    exact ⟨he' ▸ List.getElem_mem hi, by rw [List.getElem?_eq_getElem hi]; exact congrArg some he'⟩
  split at h
  · rename_i q
    cases h
    obtain ⟨hx, hx'⟩ := key _ q
    obtain ⟨h1, attr, ha, hb⟩ := H.aget x hx
    obtain rfl : ("s" : Str) = x := Option.some.inj hx'
    exact get_own F Kg I h1 H.ahas ha hb k3 rfl (k _ _ _ e (r0.toks rfl) (.str _ _ hlen))
  · rename_i q
    cases h
    obtain ⟨hx, hx'⟩ := key _ q
    obtain ⟨h1, attr, ha, hb⟩ := H.aget x hx
    obtain rfl : ("substring_i" : Str) = x := Option.some.inj hx'
    exact get_own F Kg I h1 H.ahas ha hb k4 rfl (k _ _ _ e (r0.toks rfl) (.int _ _))
  · rename_i q
    cases h
    obtain ⟨hx, hx'⟩ := key _ q
    obtain ⟨h1, attr, ha, hb⟩ := H.aget x hx
    obtain rfl : ("result" : Str) = x := Option.some.inj hx'
    exact get_own F Kg I h1 H.ahas ha hb k5 rfl (k _ _ _ e (r0.toks rfl) (.int _ _))
  · cases h
theorem SEv.clsAttr {o x : Str} {v : V} {σ : Sg} {p pos : Pos} (H : KOk X) (ho : nameV X.wd σ o = some (.cst X.wd.cls)) (h : lookD x X.wd.attr = some v) : SEv X (.Attribute (.Name o p) x pos) σ v σ.tel := by
  intro c C nw s Q E r k
  refine Attribute_Name_ (SEv.name H ho c C nw s _ E r fun nw' y s' e r' hv => ?_)
  cases hv
  obtain ⟨mc, h1, h2⟩ := H.cat
  obtain ⟨y, h3, h4, h5⟩ := h2 x v h
  exact cls_value (r'.inK C) h1 h3 h4 (k _ _ _ e (r'.toks rfl) (h5 nw'))

/-! operators -/
noncomputable def BinOk (X : Fx) (op : Operator) (a b v : V) : Prop := ∀ (c : Cx) (nw : List (Addr × Obj)) (σ : Sg) (_ : CxOk X c σ.d) (s : Shared) (x y : Value) (Q : Value → Shared → Prop) (E : Value → Shared → Prop), VR X nw a x → VR X nw b y → Rel X c nw σ s →
  (∀ nw' z s', X.ext nw nw' → Rel X c nw' σ s' → VR X nw' v z → Q z s') → wpAny (model pr X.w) c.A (binaryOp op x y) Q E s
theorem VR.lst_inv {nw : List (Addr × Obj)} {vs : List V} {y : Value} (h : VR X nw (.lst vs) y) : ∃ a o items n, y = .ref a ∧ At X nw a o ∧ o.cls = .type "list" ∧ o.data = .seq items n ∧ VRs X nw vs items.toList ∧ vs.length ≤ 1000 := by
  cases h with
  | lst _ a o items n h1 h2 h3 h4 h5 => exact ⟨a, o, items, n, rfl, h1, h2, h3, h4, h5⟩
theorem VRs.app {nw : List (Addr × Obj)} : ∀ {a : List V} {b : List Value} {c : List V} {d : List Value}, VRs X nw a b → VRs X nw c d → VRs X nw (a ++ c) (b ++ d)
  | _, _, _, _, .nil, k => k
  | _, _, _, _, .cons _ _ _ _ h r, k => .cons _ _ _ _ h (VRs.app r k)
theorem sizeNe0 {c : Cx} {nw : List (Addr × Obj)} {σ : Sg} {s : Shared} (r : Rel X c nw σ s) : s.heap.objs.size ≠ X.D := by
  obtain ⟨g, m, T, B, D, F, N, nd, hs, l, ks, es, n, _, _, _, _, hD, _⟩ := r
  exact fun e => absurd e.symm (Nat.ne_of_lt (Heap.lt_size (N _ hD).1))
theorem binI_ok {R : Type} {op : Operator} {a b : Int} {k : V → Option R} {r : R} (h : binI op a b k = some r) : ∃ v, k v = some r ∧ BinOk X op (.int a) (.int b) v := by
  cases op with
  | Add => exact ⟨_, h, fun c nw σ C s x y Q E ha hb rl kk => by cases ha; cases hb; exact add_int (kk _ _ _ .refl (rl.toks rfl) (.int _ _))⟩
  | Sub => exact ⟨_, h, fun c nw σ C s x y Q E ha hb rl kk => by cases ha; cases hb; exact sub_int (kk _ _ _ .refl (rl.toks rfl) (.int _ _))⟩
  | RShift =>
    have h : (match decide (b = 1) with | true => k (.int (a / 2)) | false => none) = some r := h
    cases q1 : decide (b = 1) with
    | false => rw [q1] at h; cases h
    | true =>
      rw [q1] at h
      obtain rfl := of_decide_eq_true q1
      refine ⟨_, h, fun c nw σ C s x y Q E ha hb rl kk => ?_⟩
      cases ha; cases hb
      refine rshift_int (by decide) ?_
      rw [show ∀ i : Int, i.fdiv (2 ^ (Int.toNat 1)) = i / 2 from fun i => Int.fdiv_eq_ediv_of_nonneg i (by decide)]
      exact kk _ _ _ .refl (rl.toks rfl) (.int _ _)
  | _ => cases h
theorem addS_ok {R : Type} {x : Str} {b : V} {k : V → Option R} {r : R} (h : addS x b k = some r) : ∃ v, k v = some r ∧ BinOk X .Add (.str x) b v := by
  unfold addS at h
  cases qt : asS b with
  | none => rw [qt] at h; cases h
  | some y =>
    rw [qt] at h
    obtain rfl := asS_ok qt
    dsimp only at h
    cases q : Nat.ble (x.length + y.length) 1000000 with
    | false => rw [q] at h; cases h
    | true =>
      rw [q] at h
      have q' := Nat.le_of_ble_eq_true q
      refine ⟨_, h, fun c nw σ C s x' y' Q E ha hb rl kk => ?_⟩
      cases ha; cases hb
      exact SBL.add (fun t' n hl => kk _ _ _ .refl (rl.toks rfl) (.str _ _ (by omega))) (by rw [sizeLine_eq]; omega)
theorem addL_ok {R : Type} {x : List V} {b : V} {k : V → Option R} {r : R} (h : addL x b k = some r) : ∃ v, k v = some r ∧ BinOk X .Add (.lst x) b v := by
  unfold addL at h
  cases qt : asL b with
  | none => rw [qt] at h; cases h
  | some y =>
    rw [qt] at h
    obtain rfl := asL_ok qt
    dsimp only at h
    cases q : Nat.ble (x.length + y.length) 1000 with
    | false => rw [q] at h; cases h
    | true =>
      rw [q] at h
      have q' := Nat.le_of_ble_eq_true q
      refine ⟨_, h, fun c nw σ C s x' y' Q E ha hb rl kk => ?_⟩
      obtain ⟨a1, o1, i1, n1, rfl, h1, h2, h3, h4, h5⟩ := ha.lst_inv
      obtain ⟨a2, o2, i2, n2, rfl, g1, g2, g3, g4, g5⟩ := hb.lst_inv
      have hl1 : s.heap.IsList a1 i1.toList.toArray := rl.isList C h1 h2 h3
      have hl2 : s.heap.IsList a2 i2.toList.toArray := rl.isList C g1 g2 g3
      have hne := sizeNe0 rl
      obtain ⟨g, m, T, B, D, F, N, nd, hs, l, t⟩ := rl
      have e1 := h4.length
      have e2 := g4.length
      refine add_lists F N hl1 hl2 (fun h' F' N' => ?_) (by rw [sizeLine_eq]; omega)
      refine kk _ _ _ .cons (Rel.more (s' := { s with heap := h' }) T B D F' N' nd (fun p hp => news_fresh N p hp) hs l t) (.lst _ _ _ (i1.toList ++ i2.toList).toArray 0 (.inl ⟨.head _, hne⟩) rfl rfl ?_ (by rw [List.length_append]; omega))
      simpa using (VRs.app h4 g4).mono .cons
theorem binV_ok {R : Type} {op : Operator} {a b : V} {k : V → Option R} {r : R} (h : binV op a b k = some r) : ∃ v, k v = some r ∧ BinOk X op a b v := by
  unfold binV at h
  cases qa : asI a with
  | some xi =>
    rw [qa] at h
    obtain rfl := asI_ok qa
    cases qb : asI b with
    | none => rw [qb] at h; cases h
    | some yi => rw [qb] at h; obtain rfl := asI_ok qb; exact binI_ok h
  | none =>
    rw [qa] at h
    cases qo : isAdd op with
    | false => rw [qo] at h; cases h
    | true =>
      rw [qo] at h
      obtain rfl := isAdd_ok qo
      have h : addV a b k = some r := h
      unfold addV at h
      cases qs : asS a with
      | some x => rw [qs] at h; obtain rfl := asS_ok qs; exact addS_ok h
      | none =>
        rw [qs] at h
        cases ql : asL a with
        | none => rw [ql] at h; cases h
        | some x => rw [ql] at h; obtain rfl := asL_ok ql; exact addL_ok h
theorem SEv.bin {l r : Expr} {op : Operator} {pos : Pos} {σ : Sg} {a b v : V} {t₁ t₂ : Tel} (h1 : SEv X l σ a t₁) (h2 : SEv X r { σ with tel := t₁ } b t₂) (h3 : BinOk X op a b v) : SEv X (.BinOp l op r pos) σ v t₂ := by
  intro c C nw s Q E rl k
  refine wpAny_BinOp (h1 c C nw s _ E rl fun nw1 y1 s1 e1 r1 v1 => h2 c C nw1 s1 _ E r1 fun nw2 y2 s2 e2 r2 v2 => h3 c nw2 { σ with tel := t₂ } C s2 y1 y2 Q E (v1.mono e2) v2 r2 fun nw3 z s3 e3 r3 v3 => k nw3 z s3 ((e1.trans e2).trans e3) r3 v3)
theorem SEv.neg {x : Expr} {pos : Pos} {σ : Sg} {i : Int} {t : Tel} (h : SEv X x σ (.int i) t) : SEv X (.UnaryOp .USub x pos) σ (.int (-i)) t := by
  intro c C nw s Q E rl k
  refine UnaryOp_ (h c C nw s _ E rl fun nw1 y1 s1 e1 r1 v1 => ?_)
  cases v1
  exact neg_int (k nw1 _ _ e1 (r1.toks rfl) (.int _ _))
noncomputable def CmpOk (X : Fx) (op : CmpOp) (a b : V) (v : Bool) : Prop := ∀ (c : Cx) (nw : List (Addr × Obj)) (σ : Sg) (_ : CxOk X c σ.d) (s : Shared) (x y : Value) (Q : Value → Shared → Prop) (E : Value → Shared → Prop), VR X nw a x → VR X nw b y → Rel X c nw σ s →
  (∀ s', Rel X c nw σ s' → Q (.bool v) s') → wpAny (model pr X.w) c.A (compareOp op x y) Q E s
theorem SEv.cmp {l r : Expr} {op : CmpOp} {pos : Pos} {σ : Sg} {a b : V} {v : Bool} {t₁ t₂ : Tel} (hn : notSet r = true) (h1 : SEv X l σ a t₁) (h2 : SEv X r { σ with tel := t₁ } b t₂) (h3 : CmpOk X op a b v) : SEv X (.Compare l [op] [r] pos) σ (.bool v) t₂ := by
  intro c C nw s Q E rl k
  refine wpAny_Compare1 (h1 c C nw s _ E rl fun nw1 y1 s1 e1 r1 v1 => h2 c C nw1 s1 _ E r1 fun nw2 y2 s2 e2 r2 v2 => h3 c nw2 { σ with tel := t₂ } C s2 y1 y2 Q E (v1.mono e2) v2 r2 fun s3 r3 => k nw2 _ s3 (e1.trans e2) r3 (.bool v)) ?_
  cases r <;> first | rfl | cases hn
theorem STst.cmp {l r : Expr} {op : CmpOp} {pos : Pos} {σ : Sg} {a b : V} {v : Bool} {t₁ t₂ : Tel} (hn : notSet r = true) (h1 : SEv X l σ a t₁) (h2 : SEv X r { σ with tel := t₁ } b t₂) (h3 : CmpOk X op a b v) : STst X (.Compare l [op] [r] pos) σ v t₂ := by
  intro c C nw s Q E rl k
  refine wpAny_isTrue_Compare1 (h1 c C nw s _ E rl fun nw1 y1 s1 e1 r1 v1 => h2 c C nw1 s1 _ E r1 fun nw2 y2 s2 e2 r2 v2 => h3 c nw2 { σ with tel := t₂ } C s2 y1 y2 _ E (v1.mono e2) v2 r2 fun s3 r3 => wpAny_truthy_bool (k nw2 s3 (e1.trans e2) r3)) ?_
  cases r <;> first | rfl | cases hn
theorem STst.not {x : Expr} {pos : Pos} {σ : Sg} {b : Bool} {t : Tel} (h : STst X x σ b t) : STst X (.UnaryOp .Not x pos) σ (!b) t := by
  intro c C nw s Q E rl k
  exact isTrue_not (h c C nw s _ E rl k)
theorem STst.bools {op : BoolOp} {es : List Expr} {pos : Pos} {σ : Sg} {b : Bool} {t : Tel} (h : STsts X op es σ b t) : STst X (.BoolOp op es pos) σ b t := by
  intro c C nw s Q E rl k
  rw [arm_isTrue_BoolOp]
  exact h c C nw s _ E rl k
theorem STsts.one {op : BoolOp} {e : Expr} {σ : Sg} {b : Bool} {t : Tel} (h : STst X e σ b t) : STsts X op [e] σ b t := by
  intro c C nw s Q E rl k
  rw [arm_allTrue_cons]
  refine wpAny_bind (h c C nw s _ E rl fun nw' s' e r => ?_)
  have z := k nw' s' e r
  cases op <;> cases b <;> exact wpAny_pure z
theorem STsts.stop {op : BoolOp} {e : Expr} {es : List Expr} {σ : Sg} {b : Bool} {t : Tel} (h : STst X e σ b t) (hb : (op = .And ∧ b = false) ∨ (op = .Or ∧ b = true)) : STsts X op (e :: es) σ b t := by
  intro c C nw s Q E rl k
  rw [arm_allTrue_cons]
  refine wpAny_bind (h c C nw s _ E rl fun nw' s' e r => ?_)
  have z := k nw' s' e r
  rcases hb with ⟨rfl, rfl⟩ | ⟨rfl, rfl⟩ <;> exact wpAny_pure z
theorem STsts.go {op : BoolOp} {e : Expr} {es : List Expr} {σ : Sg} {b b' : Bool} {t t' : Tel} (h : STst X e σ b t) (hb : (op = .And ∧ b = true) ∨ (op = .Or ∧ b = false)) (h2 : STsts X op es { σ with tel := t } b' t') : STsts X op (e :: es) σ b' t' := by
  intro c C nw s Q E rl k
  rw [arm_allTrue_cons]
  refine wpAny_bind (h c C nw s _ E rl fun nw' s' e r => ?_)
  have z := h2 c C nw' s' Q E r fun nw2 s2 e2 r2 => k nw2 s2 (e.trans e2) r2
  rcases hb with ⟨rfl, rfl⟩ | ⟨rfl, rfl⟩ <;> exact z
theorem STst.plain {e : Expr} {σ : Sg} {b : Bool} {t : Tel} (he : (match e with | .Name .. | .Constant .. | .Call .. => true | _ => false) = true) (h : SEv X e σ (.bool b) t) : STst X e σ b t := by
  intro c C nw s Q E rl k
  have e0 : PySem.isTrue e c.env (eval e c.env) = (do let v ← eval e c.env; standAt e.pos; holding [v] (truthy v)) := by
    cases e <;> first | rfl | cases he
  rw [e0]
  refine wpAny_bind (h c C nw s _ E rl fun nw' y s' e r v => ?_)
  cases v
  exact wpAny_bind (wpAny_standAt (wpAny_holding (wpAny_truthy_bool (k nw' s' e r))))
theorem SEv.ifexp {t b o : Expr} {pos : Pos} {σ : Sg} {c : Bool} {v : V} {t₁ t₂ : Tel} (h1 : STst X t σ c t₁) (h2 : SEv X (if c then b else o) { σ with tel := t₁ } v t₂) : SEv X (.IfExp t b o pos) σ v t₂ := by
  intro cx C nw s Q E rl k
  refine IfExp_ (h1 cx C nw s _ E rl fun nw1 s1 e1 r1 => ?_)
  have z := h2 cx C nw1 s1 Q E r1 fun nw2 y s2 e2 r2 v2 => k nw2 y s2 (e1.trans e2) r2 v2
  cases c <;> exact z
theorem SEvs.nil {σ : Sg} : SEvs X [] σ [] σ.tel := by
  intro c C pos nw s Q E rl k
  exact spliced_none (k nw _ _ .refl rl .nil)
theorem SEvs.cons {e : Expr} {es : List Expr} {σ : Sg} {v : V} {vs : List V} {t₁ t₂ : Tel} (he : isStarE e = false) (h1 : SEv X e σ v t₁) (h2 : SEvs X es { σ with tel := t₁ } vs t₂) : SEvs X (e :: es) σ (v :: vs) t₂ := by
  intro c C pos nw s Q E rl k
  refine spliced_more (h1 c C nw s _ E rl fun nw1 y1 s1 e1 r1 v1 => h2 c C pos nw1 s1 _ E r1 fun nw2 ys s2 e2 r2 v2 => k nw2 _ s2 (e1.trans e2) r2 (.cons _ _ _ _ (v1.mono e2) v2)) ?_
  cases e <;> first | rfl | cases he
end Mine
end
section
set_option autoImplicit false
set_option maxRecDepth 100000
namespace Mine
open PySem PySem.W PySem.Calls PyProof.Rows
variable {X : Fx}

/-- the sets of the top -/
noncomputable def SetsOk (X : Fx) : Prop := ∀ a l, X.wd.sets a = some l → ∃ (S : Str → Bool) (n : Nat), (∀ x, S x = l.any (· == x)) ∧ ∀ h, X.K.In h → h.SetOf (PySem.strKind pr X.w) a S n

theorem strsAre {nw : List (Addr × Obj)} : ∀ {vs : List V} {ys : List Value} {l : List Str}, VRs X nw vs ys → isStrs vs = some l → StrsAre ys l
  | [], _, l, .nil, h => by cases h; exact .nil
  | v :: vs, _, l, .cons _ y _ ys h1 h2, h => by
    cases v with
    | str x =>
      unfold isStrs at h
      cases q : isStrs vs with
      | none => rw [q] at h; cases h
      | some l' =>
        rw [q] at h
        cases h
        cases h1
        exact .cons _ _ (strsAre h2 q)
    | _ => simp [isStrs] at h
theorem inS_ok (HS : SetsOk X) {x : Str} {b : V} {v : Bool} (h : inS X.wd x b = some v) : CmpOk X .In (.str x) b v ∧ CmpOk X .NotIn (.str x) b (!v) := by
  unfold inS at h
  cases ql : asL b with
  | some vs =>
    rw [ql] at h
    obtain rfl := asL_ok ql
    dsimp only at h
    cases q : isStrs vs with
    | none => rw [q] at h; cases h
    | some l =>
      rw [q] at h
      cases h
      constructor
      · intro c nw σ C s y z Q E ha hb rl k
        cases ha
        cases hb with
        | lst _ a o items n h1 h2 h3 h4 h5 =>
          exact in_list_strs (vs := items.toList) (rl.isList C h1 h2 h3) (strsAre h4 q) (k _ rl)
      · intro c nw σ C s y z Q E ha hb rl k
        cases ha
        cases hb with
        | lst _ a o items n h1 h2 h3 h4 h5 =>
          exact notin_list_strs (vs := items.toList) (rl.isList C h1 h2 h3) (strsAre h4 q) (k _ rl)
  | none =>
    rw [ql] at h
    cases qc : asC b with
    | none => rw [qc] at h; cases h
    | some a =>
    rw [qc] at h
    obtain rfl := asC_ok qc
    dsimp only at h
    cases q : X.wd.sets a with
    | none => rw [q] at h; cases h
    | some l =>
      rw [q] at h
      cases h
      obtain ⟨S, n, hS, hA⟩ := HS a l q
      have hk : ∀ t, (PySem.strKind pr X.w).is x (.str x t) = true := fun t => by show (x == x) = true; exact beq_self_eq_true x
      constructor
      · intro c nw σ C s y z Q E ha hb rl k
        cases ha; cases hb
        refine wpAny_inSet_of (knd := PySem.strKind pr X.w) (hk _) rfl (hA _ (rl.inK C)) ?_
        rw [hS]
        exact k _ (rl.toks rfl)
      · intro c nw σ C s y z Q E ha hb rl k
        cases ha; cases hb
        refine wpAny_notInSet_of (knd := PySem.strKind pr X.w) (hk _) rfl (hA _ (rl.inK C)) ?_
        rw [hS]
        exact k _ (rl.toks rfl)
theorem dec_eq (i j : Int) : (i == j) = decide (i = j) := by
  by_cases h : i = j <;> simp [h]
theorem cmpI_ok {op : CmpOp} {x y : Int} {v : Bool} (h : cmpI op x y = some v) : CmpOk X op (.int x) (.int y) v := by
  intro c nw σ C s p q Q E ha hb rl k
  cases ha; cases hb
  cases op with
  | Eq =>
    cases h
    refine eq_int ?_
    rw [dec_eq]; exact k _ rl
  | NotEq =>
    cases h
    refine ne_int ?_
    rw [show ∀ i j : Int, (i != j) = !decide (i = j) from fun i j => by rw [bne, dec_eq]]; exact k _ rl
  | Lt => cases h; exact lt_int (k _ rl)
  | LtE => cases h; exact le_int (k _ rl)
  | Gt => cases h; exact gt_int (k _ rl)
  | GtE => cases h; exact ge_int (k _ rl)
  | _ => cases h
theorem cmpS_ok (HS : SetsOk X) {op : CmpOp} {x : Str} {b : V} {v : Bool} (h : cmpS X.wd op x b = some v) : CmpOk X op (.str x) b v := by
  cases op with
  | Eq =>
    have h : (match asS b with | some y => some (x == y) | none => none) = some v := h
    cases q : asS b with
    | none => rw [q] at h; cases h
    | some y =>
      rw [q] at h
      obtain rfl := asS_ok q
      cases h
      intro c nw σ C s p q Q E ha hb rl k
      cases ha; cases hb
      exact eq_str (k _ rl)
  | NotEq =>
    have h : (match asS b with | some y => some (!(x == y)) | none => none) = some v := h
    cases q : asS b with
    | none => rw [q] at h; cases h
    | some y =>
      rw [q] at h
      obtain rfl := asS_ok q
      cases h
      intro c nw σ C s p q Q E ha hb rl k
      cases ha; cases hb
      exact ne_str (k _ rl)
  | In => exact (inS_ok HS h).1
  | NotIn =>
    have h : (match inS X.wd x b with | some c => some (!c) | none => none) = some v := h
    cases q : inS X.wd x b with
    | none => rw [q] at h; cases h
    | some c => rw [q] at h; cases h; exact (inS_ok HS q).2
  | _ => cases h
theorem cmpV_ok (HS : SetsOk X) {op : CmpOp} {a b : V} {v : Bool} (h : cmpV X.wd op a b = some v) : CmpOk X op a b v := by
  unfold cmpV at h
  cases qa : asI a with
  | some x =>
    rw [qa] at h
    obtain rfl := asI_ok qa
    cases qb : asI b with
    | none => rw [qb] at h; cases h
    | some y => rw [qb] at h; obtain rfl := asI_ok qb; exact cmpI_ok h
  | none =>
    rw [qa] at h
    cases qs : asS a with
    | none => rw [qs] at h; cases h
    | some x => rw [qs] at h; obtain rfl := asS_ok qs; exact cmpS_ok HS h
theorem Rel.alloc {c : Cx} {nw : List (Addr × Obj)} {σ : Sg} {s : Shared} (r : Rel X c nw σ s) : ∃ g m, Fr g c.L s.heap m ∧ News g c.L s.heap nw ∧
    ∀ (s' : Shared) (q : Addr × Obj), q.1 = s.heap.objs.size → Fr g c.L s'.heap m → News g c.L s'.heap (q :: nw) → (_ : s'.gens = s.gens := by rfl) → (_ : s'.os = s.os := by rfl) → Rel X c (q :: nw) σ s' := by
  obtain ⟨g, m, T, B, D, F, N, nd, hs, l, t⟩ := r
  exact ⟨g, m, F, N, fun s' q e F' N' e2 e3 => Rel.more T B D F' N' nd (fun p hp => e ▸ news_fresh N p hp) (by rw [e2, e3]; exact hs) l t⟩
theorem TelR.ne {nw : List (Addr × Obj)} {t : Tel} {c : Cx} {g h : Heap} (t : TelR X nw t) (N : News g c.L h nw) : h.objs.size ≠ X.D := by
  obtain ⟨ks, es, n, _, _, _, _, hD, _⟩ := t
  exact fun e => absurd e.symm (Nat.ne_of_lt (Heap.lt_size (N _ hD).1))
theorem Rel.sizeNe {c : Cx} {nw : List (Addr × Obj)} {σ : Sg} {s : Shared} (r : Rel X c nw σ s) : s.heap.objs.size ≠ X.D := by
  obtain ⟨g, m, T, B, D, F, N, nd, hs, l, t⟩ := r
  exact t.ne (c := c) N
theorem SEv.tuple {es : List Expr} {kk : Nat} {pos : Pos} {σ : Sg} {vs : List V} {t : Tel} (hl : es.length < 1000) (hv : vs.length = es.length) (h : SEvs X es σ vs t) : SEv X (.Tuple es kk pos) σ (.tup vs) t := by
  intro c C nw s Q E rl k
  refine Tuple_ (h c C pos nw s _ E rl fun nw1 ys s1 e1 r1 v1 => ?_)
  obtain ⟨g, m, F, N, cont⟩ := r1.alloc
  have hlen := v1.length
  refine newTuple_N F N (fun h' F' N' => ?_) (by rw [sizeLine_eq]; omega)
  have hne := r1.sizeNe
  exact k _ _ _ (e1.trans .cons) (cont ⟨h', s1.gens, s1.drawn, s1.toks, s1.os⟩ _ rfl F' N') (.tup vs _ _ ys.toArray 0 (.inl ⟨.head _, hne⟩) rfl rfl (by simpa using v1.mono .cons) (by omega))
theorem SEv.list {es : List Expr} {pos : Pos} {σ : Sg} {vs : List V} {t : Tel} (hl : es.length < 1000) (hv : vs.length = es.length) (h : SEvs X es σ vs t) : SEv X (.List es pos) σ (.lst vs) t := by
  intro c C nw s Q E rl k
  refine List_ (h c C pos nw s _ E rl fun nw1 ys s1 e1 r1 v1 => ?_)
  obtain ⟨g, m, F, N, cont⟩ := r1.alloc
  have hlen := v1.length
  refine newList_N F N (fun h' F' N' => ?_) (by rw [sizeLine_eq]; omega)
  have hne := r1.sizeNe
  exact k _ _ _ (e1.trans .cons) (cont ⟨h', s1.gens, s1.drawn, s1.toks, s1.os⟩ _ rfl F' N') (.lst vs _ _ ys.toArray 0 (.inl ⟨.head _, hne⟩) rfl rfl (by simpa using v1.mono .cons) (by omega))

/-! slices of a text -/
noncomputable def SOpt (X : Fx) (e : Option Expr) (σ : Sg) (i : Option Int) (t : Tel) : Prop := ∀ c, CxOk X c σ.d → ∀ nw s (Q : Value → Shared → Prop) (E : Value → Shared → Prop), Rel X c nw σ s →
  (∀ nw' y s', X.ext nw nw' → Rel X c nw' { σ with tel := t } s' → (match i with | none => y = .none | some i => ∃ u, y = .int i u) → Q y s') → wpAny (model pr X.w) c.A (evalPart e c.env) Q E s
theorem SOpt.none {σ : Sg} : SOpt X none σ none σ.tel := by
  intro c C nw s Q E rl k
  exact wpAny_pure (k nw _ _ .refl rl rfl)
theorem SOpt.some {e : Expr} {σ : Sg} {i : Int} {t : Tel} (h : SEv X e σ (.int i) t) : SOpt X (some e) σ (some i) t := by
  intro c C nw s Q E rl k
  refine h c C nw s Q E rl fun nw' y s' e r v => ?_
  cases v
  exact k nw' _ s' e r ⟨_, rfl⟩
theorem slice_len (x : Str) (l u : Option Int) : (Txt.slice x l u).length ≤ x.length := PyProof.Txt.length_slice_le x l u
theorem SEv.slice {a : Expr} {l u : Option Expr} {p pos : Pos} {σ : Sg} {x : Str} {i j : Option Int} {t₁ t₂ t₃ : Tel} (h1 : SEv X a σ (.str x) t₁) (h2 : SOpt X l { σ with tel := t₁ } i t₂) (h3 : SOpt X u { σ with tel := t₂ } j t₃) :
    SEv X (.Subscript a (.Slice l u none p) pos) σ (.str (Txt.slice x i j)) t₃ := by
  intro c C nw s Q E rl k
  refine Subscript_ (h1 c C nw s _ E rl fun nw1 y1 s1 e1 r1 v1 => ?_)
  cases v1 with
  | str _ tx hx =>
  refine wpAny_Slice (h2 c C nw1 s1 _ E r1 fun nw2 y2 s2 e2 r2 v2 => h3 c C nw2 s2 _ E r2 fun nw3 y3 s3 e3 r3 v3 => wpAny_pure ?_)
  have hsz : x.length ≤ sizeLine := by rw [sizeLine_eq]; omega
  have hlen : (Txt.slice x i j).length ≤ 1000000 := Nat.le_trans (slice_len x i j) hx
  have hgo : ∀ r : Value, letTemporaryGo a (.str x tx) r = pure () := fun r => by cases a <;> rfl
  have r3' := r3
  obtain ⟨g, m, T, B, D, F, N, nd, hs, l', t'⟩ := r3
  have kk : ∀ (h' : Heap) (tk : Tok) (n : Nat), Fr g c.L h' m → News g c.L h' nw3 → Q (.str (Txt.slice x i j) tk) ⟨h', s3.gens, s3.drawn, n, s3.os⟩ := fun h' tk n F' N' =>
    k nw3 _ _ ((e1.trans e2).trans e3) ⟨g, m, T, B, D, F', N', nd, hs, l', t'⟩ (.str _ _ hlen)
  cases i with
  | none =>
    subst v2
    cases j with
    | none =>
      subst v3
      exact slice_strN_nn F N kk rfl hgo hsz
    | some j =>
      obtain ⟨u3, rfl⟩ := v3
      exact slice_strN_ns F N kk rfl hgo hsz
  | some i =>
    obtain ⟨u2, rfl⟩ := v2
    cases j with
    | none =>
      subst v3
      exact slice_strN_sn F N kk rfl hgo hsz
    | some j =>
      obtain ⟨u3, rfl⟩ := v3
      exact slice_strN_ss F N kk rfl hgo hsz
theorem VRs.get {nw : List (Addr × Obj)} : ∀ {vs : List V} {ys : List Value}, VRs X nw vs ys → ∀ i : Nat, (vs[i]? = none ∧ ys[i]? = none) ∨ ∃ v y, vs[i]? = some v ∧ ys[i]? = some y ∧ VR X nw v y
  | _, _, .nil, i => .inl ⟨rfl, rfl⟩
  | _, _, .cons v y vs ys h r, 0 => .inr ⟨v, y, rfl, rfl, h⟩
  | _, _, .cons v y vs ys h r, i + 1 => by simpa using VRs.get r i
theorem VRs.pick {nw : List (Addr × Obj)} {vs : List V} {ys : List Value} (h : VRs X nw vs ys) : ∀ l : List Nat, VRs X nw (l.filterMap (vs[·]?)) (l.filterMap (ys[·]?))
  | [] => .nil
  | i :: l => by
    rw [List.filterMap_cons, List.filterMap_cons]
    rcases h.get i with ⟨a, b⟩ | ⟨v, y, a, b, c⟩
    · rw [a, b]; exact h.pick l
    · rw [a, b]; exact .cons _ _ _ _ c (h.pick l)
theorem slicePick_rel {nw : List (Addr × Obj)} {vs : List V} {items : Array Value} (h : VRs X nw vs items.toList) (lo hi : Option Int) : VRs X nw (sliceV vs lo hi) (slicePick items lo hi none).toList := by
  have hl : vs.length = items.size := by rw [h.length]; rfl
  unfold sliceV slicePick
  rw [← hl]
  have := h.pick (sliceRange (sliceBounds lo hi none vs.length).1 (sliceBounds lo hi none vs.length).2.1 (sliceBounds lo hi none vs.length).2.2)
  simpa using this
theorem SEv.sliceL {a : Expr} {l u : Option Expr} {p pos : Pos} {σ : Sg} {vs : List V} {i j : Option Int} {t₁ t₂ t₃ : Tel} (hn : nameE a = true) (hlen : Nat.ble (sliceV vs i j).length 1000 = true) (h1 : SEv X a σ (.lst vs) t₁) (h2 : SOpt X l { σ with tel := t₁ } i t₂) (h3 : SOpt X u { σ with tel := t₂ } j t₃) :
    SEv X (.Subscript a (.Slice l u none p) pos) σ (.lst (sliceV vs i j)) t₃ := by
  intro c C nw s Q E rl k
  refine Subscript_ (h1 c C nw s _ E rl fun nw1 y1 s1 e1 r1 v1 => ?_)
  refine wpAny_Slice (h2 c C nw1 s1 _ E r1 fun nw2 y2 s2 e2 r2 v2 => h3 c C nw2 s2 _ E r2 fun nw3 y3 s3 e3 r3 v3 => wpAny_pure ?_)
  obtain ⟨b, o, items, n, rfl, g1, g2, g3, g4, g5⟩ := (v1.mono (e2.trans e3)).lst_inv
  have hI : s3.heap.IsList b items := Rel.isList (σ := { σ with tel := t₃ }) C r3 g1 g2 g3
  have hne := sizeNe0 r3
  have r3' := r3
  obtain ⟨g, m, T, B, D, F, N, nd, hs, l', t'⟩ := r3
  have hne1 : s3.heap.objs.size + 1 ≠ X.D := by
    obtain ⟨ks, es, n, _, _, _, _, hD, _⟩ := t'
    intro e
    have q : X.D < s3.heap.objs.size := Heap.lt_size (N _ hD).1
    rw [← e] at q
    exact absurd q (Nat.not_lt.mpr (Nat.le_succ _))
  have p1 : IsPart y2 i := by cases i with | none => rw [v2]; exact .none | some i => obtain ⟨u, rfl⟩ := v2; exact .int i u
  have p2 : IsPart y3 j := by cases j with | none => rw [v3]; exact .none | some i => obtain ⟨u, rfl⟩ := v3; exact .int i u
  have hsz : items.size ≤ sizeLine := by
    have e : vs.length = items.size := by rw [g4.length]; rfl
    rw [sizeLine_eq]; omega
  refine slice_list F N hI p1 p2 (fun h' F' N' => ?_) rfl (fun r => by cases a <;> first | rfl | cases hn) hsz
  refine k _ _ _ ((e1.trans e2).trans (e3.trans .cons)) (Rel.more (s' := { s3 with heap := h' }) (σ := { σ with tel := t₃ }) T B D F' N' nd (fun p hp => fun e => by
    have q : p.1 < s3.heap.objs.size := Heap.lt_size (N p hp).1
    have e' : p.1 = s3.heap.objs.size + 1 := e
    rw [e'] at q
    exact absurd q (Nat.not_lt.mpr (Nat.le_succ _))) hs l' t') (.lst _ _ _ (slicePick items i j none) 0 (.inl ⟨.head _, hne1⟩) rfl rfl ((slicePick_rel g4 i j).mono .cons) (Nat.le_of_ble_eq_true hlen))
end Mine
end
section
set_option autoImplicit false
set_option maxRecDepth 100000
namespace Mine
open PySem PySem.W PySem.Calls PyProof.Rows
variable {X : Fx}

theorem nth_vr {nw : List (Addr × Obj)} : ∀ {vs : List V} {ys : List Value} {n : Nat} {v : V}, VRs X nw vs ys → nthV vs n = some v → n < vs.length ∧ ∃ y, ys[n]? = some y ∧ VR X nw v y
  | v :: vs, _, 0, u, .cons _ y _ ys h1 h2, e => by
    unfold nthV at e
    cases e
    exact ⟨Nat.succ_pos _, y, rfl, h1⟩
  | v :: vs, _, n + 1, u, .cons _ y _ ys h1 h2, e => by
    unfold nthV at e
    obtain ⟨a, z, b, c⟩ := nth_vr h2 e
    exact ⟨Nat.succ_lt_succ a, z, b, c⟩
theorem seqIx {i : Int} {n : Nat} (h1 : 0 ≤ i) (h2 : i < (n : Int)) : seqIndex? i n = some i.toNat := by
  unfold seqIndex?
  have e : ¬ i < 0 := by omega
  simp only [if_neg e]
  have a1 : decide (0 ≤ i) = true := decide_eq_true h1
  have a2 : decide (i < (n : Int)) = true := decide_eq_true h2
  simp [a1, a2, h1, h2]
noncomputable def noSlice : Expr → Bool
  | .Slice .. => false
  | _ => true
noncomputable def ItemOk (X : Fx) (value : Expr) (a : V) (i : Int) (v : V) : Prop := ∀ (c : Cx) (nw : List (Addr × Obj)) (σ : Sg) (_ : CxOk X c σ.d) (s : Shared) (slice : Expr) (_ : noSlice slice = true) (x : Value) (u : Tok) (Q : Value → Shared → Prop) (E : Value → Shared → Prop), VR X nw a x → Rel X c nw σ s →
  (∀ y s', Rel X c nw σ s' → VR X nw v y → Q y s') → wpAny (model pr X.w) c.A (subscriptTail value slice x (.int i u)) Q E s
theorem sub_eq {slice : Expr} (h : noSlice slice = true) (o i : Value) : subscripted slice false o i = operate [o, i] (getItem o i) := by
  cases slice <;> first | rfl | cases h
theorem itemV_ok {R : Type} {value : Expr} {a : V} {i : Int} {k : V → Option R} {r : R} (hn : (match a with | .lst _ => nameE value | _ => true) = true) (h : itemV a i k = some r) : ∃ v, k v = some r ∧ ItemOk X value a i v := by
  unfold itemV at h
  split at h
  · rename_i x
    cases q1 : decide (0 ≤ i) with
    | false => rw [q1] at h; cases h
    | true =>
      rw [q1] at h
      cases q2 : decide (i < (x.length : Int)) with
      | false => rw [q2] at h; cases h
      | true =>
        rw [q2] at h
        refine ⟨_, h, fun c nw σ C s slice hsl y u Q E ha rl kk => ?_⟩
        have q1 := of_decide_eq_true q1
        have q2 := of_decide_eq_true q2
        cases ha with
        | str _ t hx =>
        have hf : fitsSsize i = true := by
          unfold fitsSsize
          have a1 : ¬ i < -2 ^ 63 := by omega
          have a2 : ¬ i ≥ 2 ^ 63 := by omega
          rw [decide_eq_false a1, decide_eq_false a2]; rfl
        exact item_str hf (by omega) q2 (fun hl => kk _ _ (rl.toks rfl) (.str _ _ (Nat.le_trans hl.2 (by decide)))) (sub_eq hsl _ _) (fun r => by cases value <;> rfl)
  · rename_i vs
    cases q1 : decide (0 ≤ i) with
    | false => rw [q1] at h; cases h
    | true =>
      rw [q1] at h
      have q1 := of_decide_eq_true q1
      cases q2 : nthV vs i.toNat with
      | none => rw [q2] at h; cases h
      | some v =>
        rw [q2] at h
        refine ⟨v, h, fun c nw σ C s slice hsl y u Q E ha rl kk => ?_⟩
        cases ha with
        | lst _ a o items n h1 h2 h3 h4 h5 =>
        obtain ⟨hl, y, hy, hv⟩ := nth_vr h4 q2
        have hI : s.heap.IsList a items.toList.toArray := rl.isList C h1 h2 h3
        exact item_listL hI q1 (by omega) hy (kk _ _ rl hv) (sub_eq hsl _ _) (fun r => by cases value <;> first | rfl | cases hn)
  · rename_i vs
    cases q1 : decide (0 ≤ i) with
    | false => rw [q1] at h; cases h
    | true =>
      rw [q1] at h
      have q1 := of_decide_eq_true q1
      cases q2 : nthV vs i.toNat with
      | none => rw [q2] at h; cases h
      | some v =>
        rw [q2] at h
        refine ⟨v, h, fun c nw σ C s slice hsl y u Q E ha rl kk => ?_⟩
        cases ha with
        | tup _ a o items n h1 h2 h3 h4 h5 =>
        obtain ⟨hl, y, hy, hv⟩ := nth_vr h4 q2
        have hI : IsTup s.heap a items.toList.toArray := rl.isTup C h1 h2 h3
        have hlen := h4.length
        exact item_tupleT (j := i.toNat) hI (by omega) (by omega) (seqIx q1 (by omega)) hy (kk _ _ rl hv) (sub_eq hsl _ _)
  · cases h
theorem SEv.item {a i : Expr} {pos : Pos} {σ : Sg} {v w : V} {j : Int} {t₁ t₂ : Tel} (hs : noSlice i = true) (h1 : SEv X a σ v t₁) (h2 : SEv X i { σ with tel := t₁ } (.int j) t₂) (h3 : ItemOk X a v j w) : SEv X (.Subscript a i pos) σ w t₂ := by
  intro c C nw s Q E rl k
  refine Subscript_ (h1 c C nw s _ E rl fun nw1 y1 s1 e1 r1 v1 => h2 c C nw1 s1 _ E r1 fun nw2 y2 s2 e2 r2 v2 => ?_)
  cases v2
  exact h3 c nw2 { σ with tel := t₂ } C s2 i hs y1 _ Q E (v1.mono e2) r2 fun y s3 r3 v3 => k nw2 y s3 (e1.trans e2) r3 v3
/-- the tables by texts -/
noncomputable def DictsOk (X : Fx) : Prop := ∀ c l, X.wd.dicts c = some l → ∃ es n, X.K.lookup c = some { cls := .type "dict", data := .dict es n } ∧ KeysLit X.w.params es.toList ∧ ∀ x v, lookD x l = some v → ∃ y, nsIn X.K c x = some (some y) ∧ ∀ nw, VR X nw v y
theorem SEv.dict {a i : Expr} {pos : Pos} {σ : Sg} {d : Nat} {x : Str} {l : List (Str × V)} {w : V} {t₁ t₂ : Tel} (HD : DictsOk X) (hs : noSlice i = true) (h1 : SEv X a σ (.cst d) t₁) (h2 : SEv X i { σ with tel := t₁ } (.str x) t₂) (h3 : X.wd.dicts d = some l) (h4 : lookD x l = some w) : SEv X (.Subscript a i pos) σ w t₂ := by
  intro c C nw s Q E rl k
  refine Subscript_ (h1 c C nw s _ E rl fun nw1 y1 s1 e1 r1 v1 => h2 c C nw1 s1 _ E r1 fun nw2 y2 s2 e2 r2 v2 => ?_)
  cases v1
  cases v2
  obtain ⟨es, n, k1, k2, k3⟩ := HD d l h3
  obtain ⟨y, k4, k5⟩ := k3 x w h4
  have r0 := r2
  obtain ⟨g, m, T, B, D, F, N, nd, hs', l', t'⟩ := r2
  exact topItem_K F (C.kin.keeps B.stays) k1 k2 k4 (k nw2 _ _ (e1.trans e2) (r0.toks rfl) (k5 nw2)) (sub_eq hs _ _)

/-! built-in functions -/
noncomputable def BiOk (X : Fx) (f : Value) (args : List V) (v : V) : Prop := ∀ (c : Cx) (nw : List (Addr × Obj)) (σ : Sg) (_ : CxOk X c σ.d) (s : Shared) (ys : List Value) (Q : Value → Shared → Prop) (E : Value → Shared → Prop), VRs X nw args ys → Rel X c nw σ s →
  (∀ nw' y s', X.ext nw nw' → Rel X c nw' σ s' → VR X nw' v y → Q y s') → wpAny (model pr X.w) c.A (PySem.call f ys) Q E s
theorem bi1_ok {R : Type} {n : String} {a : V} {k : V → Option R} {r : R} (h : bi1 n a k = some r) : ∃ v, k v = some r ∧ BiOk X (.builtin n) [a] v := by
  unfold bi1 at h
  cases qn : (n == "len") with
  | true =>
    rw [qn] at h
    obtain rfl := eq_of_beq qn
    cases qs : asS a with
    | some x =>
      rw [qs] at h
      obtain rfl := asS_ok qs
      refine ⟨_, h, fun c nw σ C s ys Q E ha rl kk => ?_⟩
      cases ha with
      | cons _ y _ ys h1 h2 =>
      cases h2
      cases h1 with
      | str _ t hx => exact P.len_str (by omega) (kk nw _ _ .refl (rl.toks rfl) (.int _ _))
    | none =>
      rw [qs] at h
      cases ql : asL a with
      | none => rw [ql] at h; cases h
      | some vs =>
        rw [ql] at h
        obtain rfl := asL_ok ql
        refine ⟨_, h, fun c nw σ C s ys Q E ha rl kk => ?_⟩
        cases ha with
        | cons _ y _ ys h1 h2 =>
        cases h2
        cases h1 with
        | lst _ a o items n h1 h2 h3 h4 h5 =>
        have hlen := h4.length
        have hsz : items.size = vs.length := by rw [hlen]; rfl
        refine len_list (rl.isList C h1 h2 h3) (by omega) ?_
        rw [hsz]
        exact kk nw _ _ .refl (rl.toks rfl) (.int _ _)
  | false =>
    rw [qn] at h
    dsimp only at h
    split at h
    · rename_i x qo qs
      obtain rfl := eq_of_beq qo
      obtain rfl := asS_ok qs
      cases q : Nat.beq x.length 1 with
      | false => rw [q] at h; cases h
      | true =>
        rw [q] at h
        refine ⟨_, h, fun c nw σ C s ys Q E ha rl kk => ?_⟩
        cases ha with
        | cons _ y _ ys h1 h2 =>
        cases h2
        cases h1 with
        | str _ t hx => exact ord_of_one (Nat.eq_of_beq_eq_true q) (kk nw _ _ .refl (rl.toks rfl) (.int _ _))
    · cases h
theorem bi2_ok {R : Type} {n : String} {x y : V} {k : V → Option R} {r : R} (h : bi2 n x y k = some r) : ∃ v, k v = some r ∧ BiOk X (.builtin n) [x, y] v := by
  unfold bi2 at h
  cases qn : (n == "min") with
  | false => rw [qn] at h; cases h
  | true =>
    rw [qn] at h
    obtain rfl := eq_of_beq qn
    cases qa : asI x with
    | none => rw [qa] at h; cases h
    | some a =>
      rw [qa] at h
      cases qb : asI y with
      | none => rw [qb] at h; cases h
      | some b =>
        rw [qb] at h
        obtain rfl := asI_ok qa
        obtain rfl := asI_ok qb
        have key : ∀ z : Int, (if b < a then b else a) = z → BiOk X (.builtin "min") [.int a, .int b] (.int z) := fun z hz c nw σ C s ys Q E ha rl kk => by
          cases ha with
          | cons _ y _ ys h1 h2 =>
          cases h2 with
          | cons _ y2 _ ys h3 h4 =>
          cases h4
          cases h1
          cases h3
          obtain ⟨g, m, T, B, D, F, N, nd, hs', l', t'⟩ := rl
          refine min_two_N C.hd F N fun h' tk F' N' => ?_
          rw [hz]
          exact kk nw _ _ .refl ⟨g, m, T, B, D, F', N', nd, hs', l', t'⟩ (.int _ _)
        dsimp only at h
        cases q : decide (b < a) with
        | true => rw [q] at h; exact ⟨_, h, key _ (if_pos (of_decide_eq_true q))⟩
        | false => rw [q] at h; exact ⟨_, h, key _ (if_neg (of_decide_eq_false q))⟩
theorem biV_ok {R : Type} {n : String} {args : List V} {k : V → Option R} {r : R} (h : biV n args k = some r) : ∃ v, k v = some r ∧ BiOk X (.builtin n) args v := by
  cases args with
  | nil => cases h
  | cons a args =>
    cases args with
    | nil => exact bi1_ok h
    | cons b args =>
      cases args with
      | nil => exact bi2_ok h
      | cons _ _ => cases h
theorem rng3_ok {R : Type} {a b : Int} {c : V} {k : V → Option R} {r : R} (h : rng3 a b c k = some r) : ∃ v, k v = some r ∧ BiOk X (.type "range") [.int a, .int b, c] v := by
  unfold rng3 at h
  cases qc : asI c with
  | none => rw [qc] at h; cases h
  | some ci =>
  rw [qc] at h
  obtain rfl := asI_ok qc
  dsimp only at h
  cases q1 : decide (ci = -1) with
  | false => rw [q1] at h; cases h
  | true =>
  rw [q1] at h
  obtain rfl := of_decide_eq_true q1
  dsimp only at h
  split at h
  · rename_i q1 q2
    refine ⟨_, h, fun c nw σ C s ys Q E ha rl kk => ?_⟩
    cases ha with
    | cons _ y _ ys h1 h2 =>
    cases h2 with
    | cons _ y2 _ ys h3 h4 =>
    cases h4 with
    | cons _ y3 _ ys h5 h6 =>
    cases h6
    cases h1
    cases h3
    cases h5
    have hne := rl.sizeNe
    obtain ⟨g, m, F, N, cont⟩ := rl.alloc
    refine call_range_3 (by decide) ?_ (.inl (PyProof.noPylong_small (by decide)))
    exact kk _ _ _ .cons (cont _ _ rfl (F.push _) (N.push F _)) (.rng _ _ _ _ _ _ _ _ (.inl ⟨.head _, hne⟩) rfl q1 q2)
  · cases h
theorem rng2_ok {R : Type} {a b : Int} {args : List V} {k : V → Option R} {r : R} (h : rng2 a b args k = some r) : ∃ v, k v = some r ∧ BiOk X (.type "range") (.int a :: .int b :: args) v := by
  cases args with
  | nil =>
    have h : (match inR a, inR b with | true, true => k (.rng a b 1) | _, _ => none) = some r := h
    split at h
    · rename_i q1 q2
      refine ⟨_, h, fun c nw σ C s ys Q E ha rl kk => ?_⟩
      cases ha with
      | cons _ y _ ys h1 h2 =>
      cases h2 with
      | cons _ y2 _ ys h3 h4 =>
      cases h4
      cases h1
      cases h3
      have hne := rl.sizeNe
      obtain ⟨g, m, F, N, cont⟩ := rl.alloc
      refine call_range_2 ?_
      exact kk _ _ _ .cons (cont _ _ rfl (F.push _) (N.push F _)) (.rng _ _ _ _ _ _ _ _ (.inl ⟨.head _, hne⟩) rfl q1 q2)
    · cases h
  | cons c args =>
    cases args with
    | nil => exact rng3_ok h
    | cons _ _ => cases h
theorem tyV_ok {R : Type} {n : String} {args : List V} {k : V → Option R} {r : R} (h : tyV n args k = some r) : ∃ v, k v = some r ∧ BiOk X (.type n) args v := by
  unfold tyV at h
  cases qn : (n == "range") with
  | false => rw [qn] at h; cases h
  | true =>
  rw [qn] at h
  obtain rfl := eq_of_beq qn
  have h : rng0 args k = some r := h
  cases args with
  | nil => cases h
  | cons a args =>
  unfold rng0 at h
  dsimp only at h
  cases qa : asI a with
  | none => rw [qa] at h; cases h
  | some ai =>
  rw [qa] at h
  obtain rfl := asI_ok qa
  have h : rng1 ai args k = some r := h
  cases args with
  | nil => cases h
  | cons b args =>
  unfold rng1 at h
  dsimp only at h
  cases qb : asI b with
  | none => rw [qb] at h; cases h
  | some bi =>
  rw [qb] at h
  obtain rfl := asI_ok qb
  exact rng2_ok h
end Mine
end
section
set_option autoImplicit false
set_option maxRecDepth 100000
namespace Mine
open PySem PySem.W PySem.Calls PyProof.Rows
variable {X : Fx}

/-! arguments -/
theorem starEach_cons {e : Expr} {r : List Expr} {env : Env} (h : isStarE e = false) : starEach (e :: r) env = (false, eval e env) :: starEach r env := by
  cases e <;> first | rfl | cases h
theorem args_plain {pos : Pos} {env : Env} : ∀ {es : List Expr}, (es.all fun e => !isStarE e) = true → ∀ p ∈ backTo pos (starEach es env), p.1 = false
  | [], _, p, hp => by cases hp
  | e :: r, h, p, hp => by
    rw [List.all_cons, Bool.and_eq_true] at h
    have h1 : isStarE e = false := by cases q : isStarE e with | false => rfl | true => rw [q] at h; exact absurd h.1 (by decide)
    rw [starEach_cons h1] at hp
    rcases List.mem_cons.mp hp with q | q
    · rw [q]
    · exact args_plain h.2 p q
theorem args_any {pos : Pos} {env : Env} {es : List Expr} (h : (es.all fun e => !isStarE e) = true) : (backTo pos (starEach es env)).any (·.1) = false := by
  rw [List.any_eq_false]
  exact fun p hp => by rw [args_plain h p hp]; decide
theorem args_all {pos : Pos} {env : Env} {es : List Expr} (h : (es.all fun e => !isStarE e) = true) : (backTo pos (starEach es env)).all (fun x => !x.1) = true := by
  rw [List.all_eq_true]
  exact fun p hp => by rw [args_plain h p hp]; rfl
theorem argsOk_facts {es : List Expr} (h : argsOk es = true) : es.length < 25 ∧ (es.all fun e => !isStarE e) = true := by
  unfold argsOk at h
  rw [Bool.and_eq_true] at h
  exact ⟨Nat.le_of_ble_eq_true h.1, h.2⟩
theorem argsOk_head {e : Expr} {es : List Expr} (h : argsOk (e :: es) = true) : isStarE e = false ∧ (es.all fun e => !isStarE e) = true := by
  have := (argsOk_facts h).2
  rw [List.all_cons, Bool.and_eq_true] at this
  refine ⟨?_, this.2⟩
  cases q : isStarE e with | false => rfl | true => rw [q] at this; exact absurd this.1 (by decide)

/-! a call of a name -/
theorem SEv.callF {f : Str} {p pos : Pos} {e : Expr} {es : List Expr} {a : Nat} {σ : Sg} {vs : List V} {v : V} {t₁ t₂ : Tel} (H : KOk X) (ha : argsOk (e :: es) = true) (hf : nameV X.wd σ f = some (.cst a)) (hk : isFun X.wd a = true)
    (h1 : SEvs X (e :: es) σ vs t₁) (h2 : SCall X a vs σ.d t₁ v t₂) : SEv X (.Call (.Name f p) (e :: es) [] pos) σ v t₂ := by
  intro c C nw s Q E rl k
  refine Call_ (SEv.name H hf c C nw s _ E rl fun nw1 y1 s1 e1 r1 v1 => ?_)
  cases v1
  refine callWith_K (r1.inK C) (H.keep a hk) (h1 c C pos nw1 s1 _ E r1 fun nw2 ys s2 e2 r2 v2 => ⟨r2.inK (σ := { σ with tel := t₁ }) C, ?_⟩) (starEach_cons (argsOk_head ha).1) (args_any (argsOk_head ha).2)
  exact h2 c C { σ with tel := t₁ } rfl rfl nw2 s2 ys Q E r2 v2 fun nw3 y s3 e3 r3 v3 => k nw3 y s3 ((e1.trans e2).trans e3) r3 v3
theorem SEv.callF0 {f : Str} {p pos : Pos} {a : Nat} {σ : Sg} {v : V} {t₂ : Tel} (H : KOk X) (hf : nameV X.wd σ f = some (.cst a)) (hk : isFun X.wd a = true)
    (h2 : SCall X a [] σ.d σ.tel v t₂) : SEv X (.Call (.Name f p) [] [] pos) σ v t₂ := by
  intro c C nw s Q E rl k
  refine Call_ (SEv.name H hf c C nw s _ E rl fun nw1 y1 s1 e1 r1 v1 => ?_)
  cases v1
  refine callWith_K0 (r1.inK C) (H.keep a hk) ?_
  exact h2 c C σ rfl rfl nw1 s1 [] Q E r1 .nil fun nw3 y s3 e3 r3 v3 => k nw3 y s3 (e1.trans e3) r3 v3
theorem SEv.callB {f : Str} {p pos : Pos} {e : Expr} {es : List Expr} {n : String} {σ : Sg} {vs : List V} {v : V} {t₁ : Tel} (H : KOk X) (ha : argsOk (e :: es) = true) (hf : nameV X.wd σ f = some (.bi n))
    (h1 : SEvs X (e :: es) σ vs t₁) (h2 : BiOk X (.builtin n) vs v) : SEv X (.Call (.Name f p) (e :: es) [] pos) σ v t₁ := by
  intro c C nw s Q E rl k
  refine Call_ (SEv.name H hf c C nw s _ E rl fun nw1 y1 s1 e1 r1 v1 => ?_)
  cases v1
  refine callWith_method1 (h1 c C pos nw1 s1 _ E r1 fun nw2 ys s2 e2 r2 v2 => ?_) (starEach_cons (argsOk_head ha).1) (args_any (argsOk_head ha).2)
  exact h2 c nw2 { σ with tel := t₁ } C s2 ys Q E v2 r2 fun nw3 y s3 e3 r3 v3 => k nw3 y s3 ((e1.trans e2).trans e3) r3 v3
theorem SEv.callT {f : Str} {p pos : Pos} {e : Expr} {es : List Expr} {n : String} {σ : Sg} {vs : List V} {v : V} {t₁ : Tel} (H : KOk X) (ha : argsOk (e :: es) = true) (hf : nameV X.wd σ f = some (.ty n))
    (h1 : SEvs X (e :: es) σ vs t₁) (h2 : BiOk X (.type n) vs v) : SEv X (.Call (.Name f p) (e :: es) [] pos) σ v t₁ := by
  intro c C nw s Q E rl k
  refine Call_ (SEv.name H hf c C nw s _ E rl fun nw1 y1 s1 e1 r1 v1 => ?_)
  cases v1
  refine callWith_type1 (h1 c C pos nw1 s1 _ E r1 fun nw2 ys s2 e2 r2 v2 => ?_) (starEach_cons (argsOk_head ha).1) (args_any (argsOk_head ha).2)
  exact h2 c nw2 { σ with tel := t₁ } C s2 ys Q E v2 r2 fun nw3 y s3 e3 r3 v3 => k nw3 y s3 ((e1.trans e2).trans e3) r3 v3

/-! a call of a method -/
theorem base_eq {o : Expr} {a : Str} {env : Env} {w : Sem Value} (h : oForm o = true) : attributeBase o a env w = w := by
  cases o <;> first | rfl | cases h
theorem Call_meth {M : Model} {A : Around} {E : Value → Shared → Prop} {s : Shared} {env : Env} {o : Expr} {name : Str} {apos pos : Pos} {args : List Expr} {Q : Value → Shared → Prop} (ho : oForm o = true) (hl : (apos.endLine == pos.line) = true)
    (hn : args.length < 25) (ha : (args.all fun e => !isStarE e) = true)
    (h : wpAny M A (eval o env) (fun ov s₁ => wpAny M A (getMethod ov name (do return (← importBound o env).getD true)) (fun fx s₂ => wpAny M A (callWith pos fx.1 fx.2 (backTo pos (starEach args env)) []) Q E s₂) E s₁) E s) :
    wpAny M A (eval (.Call (.Attribute o name apos) args [] pos) env) Q E s := by
  rw [arm_eval_Call, base_eq ho]
  refine wpAny_bind (wpAny_mono h (fun ov s₁ h₁ => wpAny_bind (wpAny_standAt ?_)) fun _ _ e => e)
  have hform : methodCallForm (args.length + ([] : List Keyword).length) (backTo pos (starEach args env)) (backToKw pos (keywordEach [] env)) = true := by
    unfold methodCallForm
    rw [Bool.and_eq_true, Bool.and_eq_true]
    exact ⟨⟨args_all ha, rfl⟩, decide_eq_true (by show args.length + 0 + 0 < 30; omega)⟩
  have hpos : methodCallPos true o env apos pos = pure pos := by unfold methodCallPos; simp [hl]
  unfold methodCall
  rw [hform]
  refine wpAny_bind (wpAny_holding (wpAny_mono h₁ (fun fx s₂ h₂ => ?_) fun _ _ x => x))
  exact wpAny_bind (wpAny_of_eq hpos h₂)
theorem meth_get {c : Cx} {nw : List (Addr × Obj)} {σ : Sg} {s : Shared} {x : Str} {a : Nat} {pl : Sem Bool} {Q : Value × List Value → Shared → Prop} {E : Value → Shared → Prop} (H : KOk X) (C : CxOk X c σ.d) (r : Rel X c nw σ s) (h : lookN x X.wd.meth = some a)
    (k : Q (.ref a, [.ref X.T]) s) : wpAny (model pr X.w) c.A (getMethod (.ref X.T) x pl) Q E s := by
  have KI := r.inK C
  obtain ⟨g, m, T, B, D, F, N, nd, hs, l, ks, es, n, hk, hes, h0, hT, hD, hne⟩ := r
  have I := PySem.W.InstAt.of_news N hT hD
  obtain ⟨h1, h2, h3⟩ := H.meth x a h
  have hx : x ∉ ks := fun q => h3 ((shape_facts ks hk).2.2.1 x q)
  exact PySem.W.method_fn KI I H.cga H.cgx h1 h2 (by show (lookIn x (dictOf es n)).map _ = _; rw [lookIn_dict, hes.get_none hx]; rfl) k
theorem SEv.meth {o e : Expr} {es : List Expr} {name : Str} {apos pos : Pos} {a : Nat} {σ : Sg} {vs : List V} {v : V} {t₁ t₂ t₃ : Tel} (H : KOk X) (ho : oForm o = true) (hl : (apos.endLine == pos.line) = true) (ha : argsOk (e :: es) = true)
    (h0 : SEv X o σ .self t₁) (hm : lookN name X.wd.meth = some a) (hk : isFun X.wd a = true) (h1 : SEvs X (e :: es) { σ with tel := t₁ } vs t₂) (h2 : SCall X a (.self :: vs) σ.d t₂ v t₃) : SEv X (.Call (.Attribute o name apos) (e :: es) [] pos) σ v t₃ := by
  intro c C nw s Q E rl k
  refine Call_meth ho hl (argsOk_facts ha).1 (argsOk_facts ha).2 (h0 c C nw s _ E rl fun nw1 y1 s1 e1 r1 v1 => ?_)
  cases v1
  refine meth_get (σ := { σ with tel := t₁ }) H C r1 hm ?_
  refine callWith_K (r1.inK (σ := { σ with tel := t₁ }) C) (H.keep a hk) (h1 c C pos nw1 s1 _ E r1 fun nw2 ys s2 e2 r2 v2 => ⟨r2.inK (σ := { σ with tel := t₂ }) C, ?_⟩) (starEach_cons (argsOk_head ha).1) (args_any (argsOk_head ha).2)
  exact h2 c C { σ with tel := t₂ } rfl rfl nw2 s2 _ Q E r2 (.cons _ _ _ _ .self v2) fun nw3 y s3 e3 r3 v3 => k nw3 y s3 ((e1.trans e2).trans e3) r3 v3
theorem SEv.meth0 {o : Expr} {name : Str} {apos pos : Pos} {a : Nat} {σ : Sg} {v : V} {t₁ t₃ : Tel} (H : KOk X) (ho : oForm o = true) (hl : (apos.endLine == pos.line) = true)
    (h0 : SEv X o σ .self t₁) (hm : lookN name X.wd.meth = some a) (hk : isFun X.wd a = true) (h2 : SCall X a [.self] σ.d t₁ v t₃) : SEv X (.Call (.Attribute o name apos) [] [] pos) σ v t₃ := by
  intro c C nw s Q E rl k
  refine Call_meth ho hl (by decide) rfl (h0 c C nw s _ E rl fun nw1 y1 s1 e1 r1 v1 => ?_)
  cases v1
  refine meth_get (σ := { σ with tel := t₁ }) H C r1 hm ?_
  refine callWith_K0 (r1.inK (σ := { σ with tel := t₁ }) C) (H.keep a hk) ?_
  exact h2 c C { σ with tel := t₁ } rfl rfl nw1 s1 _ Q E r1 (.cons _ _ _ _ .self .nil) fun nw3 y s3 e3 r3 v3 => k nw3 y s3 (e1.trans e3) r3 v3
theorem strs_values {nw : List (Addr × Obj)} : ∀ {vs : List V} {ys : List Value} {ts : List Str}, VRs X nw vs ys → isStrs vs = some ts → ∃ l : List (Str × Tok), ys = strValues l ∧ l.map (·.1) = ts
  | [], _, ts, .nil, h => by cases h; exact ⟨[], rfl, rfl⟩
  | v :: vs, _, ts, .cons _ y _ ys h1 h2, h => by
    cases v with
    | str x =>
      unfold isStrs at h
      cases q : isStrs vs with
      | none => rw [q] at h; cases h
      | some l' =>
        rw [q] at h
        cases h
        cases h1 with
        | str _ t _ =>
        obtain ⟨l, e1, e2⟩ := strs_values h2 q
        exact ⟨(x, t) :: l, by rw [e1]; rfl, by rw [← e2]; rfl⟩
    | _ => simp [isStrs] at h
theorem SEv.strM {o e : Expr} {es : List Expr} {name x : Str} {apos pos : Pos} {σ : Sg} {vs : List V} {v : V} {t₁ t₂ : Tel} (ho : oForm o = true) (hl : (apos.endLine == pos.line) = true) (ha : argsOk (e :: es) = true)
    (h0 : SEv X o σ (.str x) t₁) (h1 : SEvs X (e :: es) { σ with tel := t₁ } vs t₂) (h2 : Mine.strM x name vs = some v) : SEv X (.Call (.Attribute o name apos) (e :: es) [] pos) σ v t₂ := by
  intro c C nw s Q E rl k
  refine Call_meth ho hl (argsOk_facts ha).1 (argsOk_facts ha).2 (h0 c C nw s _ E rl fun nw1 y1 s1 e1 r1 v1 => ?_)
  unfold Mine.strM at h2
  split at h2
  · rename_i y
    cases v1 with
    | str _ u hu =>
    cases q : (name == ("startswith" : Str)) with
    | true =>
      rw [q] at h2
      cases h2
      obtain rfl := eq_of_beq q
      refine GM.startswith (callWith_method1 (h1 c C pos nw1 s1 _ E r1 fun nw2 ys s2 e2 r2 v2 => ?_) (starEach_cons (argsOk_head ha).1) (args_any (argsOk_head ha).2))
      cases v2 with
      | cons _ z _ ys v2 v3 =>
      cases v3
      cases v2
      exact SC.startswith (k nw2 _ _ (e1.trans e2) r2 (.bool _))
    | false =>
      rw [q] at h2
      dsimp only at h2
      cases q : (name == ("endswith" : Str)) with
      | true =>
        rw [q] at h2
        cases h2
        obtain rfl := eq_of_beq q
        refine GM.endswith (callWith_method1 (h1 c C pos nw1 s1 _ E r1 fun nw2 ys s2 e2 r2 v2 => ?_) (starEach_cons (argsOk_head ha).1) (args_any (argsOk_head ha).2))
        cases v2 with
        | cons _ z _ ys v2 v3 =>
        cases v3
        cases v2
        exact SC.endswith (k nw2 _ _ (e1.trans e2) r2 (.bool _))
      | false => rw [q] at h2; cases h2
  · rename_i ws
    cases v1 with
    | str _ u hu =>
    split at h2
    · rename_i ts q ht
      obtain rfl := eq_of_beq q
      cases qj : (JoinOk x ts && Nat.ble (Txt.join x ts).length 1000000) with
      | false => rw [qj] at h2; cases h2
      | true =>
        rw [qj] at h2
        cases h2
        rw [Bool.and_eq_true] at qj
        refine GM.join (callWith_method1 (h1 c C pos nw1 s1 _ E r1 fun nw2 ys s2 e2 r2 v2 => ?_) (starEach_cons (argsOk_head ha).1) (args_any (argsOk_head ha).2))
        cases v2 with
        | cons _ z _ ys v2 v3 =>
        cases v3
        obtain ⟨b, o, items, n, rfl, g1, g2, g3, g4, g5⟩ := v2.lst_inv
        obtain ⟨l, hl1, hl2⟩ := strs_values g4 ht
        have hI : s2.heap.IsList b items := Rel.isList (σ := { σ with tel := t₂ }) C r2 g1 g2 g3
        have e : (strValues l).toArray = items := by rw [← hl1]
        exact SC.join (D := b) (l := l) (by rw [e]; exact hI) hl2 qj.1 fun t' k' => k nw2 _ _ (e1.trans e2) (r2.toks rfl) (.str _ _ (Nat.le_of_ble_eq_true qj.2))
    · cases h2
  · cases h2
end Mine
end
section
set_option autoImplicit false
set_option maxRecDepth 100000
namespace Mine
open PySem PySem.W PySem.Calls PyProof.Rows
variable {X : Fx}

/-! a ledger entry changes -/
noncomputable def updN (a : Addr) (o : Obj) (nw : List (Addr × Obj)) : List (Addr × Obj) := nw.map fun p => if p.1 = a then (a, o) else p
theorem updN_keys {a : Addr} {o : Obj} {nw : List (Addr × Obj)} : (updN a o nw).map (·.1) = nw.map (·.1) := by
  unfold updN
  rw [List.map_map]
  apply List.map_congr_left
  intro p _
  show (if p.1 = a then (a, o) else p).1 = p.1
  by_cases h : p.1 = a
  · rw [if_pos h]; exact h.symm
  · rw [if_neg h]
theorem updN_mem {a : Addr} {o o' : Obj} {nw : List (Addr × Obj)} (h : (a, o) ∈ nw) : (a, o') ∈ updN a o' nw := by
  refine List.mem_map.mpr ⟨_, h, ?_⟩
  rw [if_pos rfl]
theorem updN_other {a : Addr} {o' : Obj} {nw : List (Addr × Obj)} {p : Addr × Obj} (h : p ∈ nw) (hp : p.1 ≠ a) : p ∈ updN a o' nw := by
  refine List.mem_map.mpr ⟨_, h, ?_⟩
  rw [if_neg hp]
theorem nodup_same {a : Addr} {o o' : Obj} : ∀ {nw : List (Addr × Obj)}, (nw.map (·.1)).Nodup → (a, o) ∈ nw → (a, o') ∈ nw → o = o'
  | [], _, h, _ => by cases h
  | p :: nw, nd, h1, h2 => by
    rw [List.map_cons, List.nodup_cons] at nd
    rcases List.mem_cons.mp h1 with e1 | h1
    · rcases List.mem_cons.mp h2 with e2 | h2
      · exact (Prod.mk.inj (e1.trans e2.symm)).2
      · exact absurd (List.mem_map.mpr ⟨_, h2, by rw [← e1]⟩) nd.1
    · rcases List.mem_cons.mp h2 with e2 | h2
      · exact absurd (List.mem_map.mpr ⟨_, h1, by rw [← e2]⟩) nd.1
      · exact nodup_same nd.2 h1 h2
theorem Upd.of_nodup {d : Addr} {o o' : Obj} : ∀ {nw : List (Addr × Obj)}, (nw.map (·.1)).Nodup → (d, o) ∈ nw → PySem.W.Upd d o o' nw (updN d o' nw)
  | [], _, h => by cases h
  | p :: nw, nd, h => by
    rw [List.map_cons, List.nodup_cons] at nd
    by_cases e : p.1 = d
    · rcases List.mem_cons.mp h with q | q
      · subst q
        have hne : ∀ q ∈ nw, q.1 ≠ d := fun q hq c => nd.1 (List.mem_map.mpr ⟨q, hq, c.trans e.symm⟩)
        have e2 : updN d o' nw = nw := by
          unfold updN
          conv => rhs; rw [← List.map_id nw]
          apply List.map_congr_left
          intro q hq
          rw [if_neg (hne q hq)]; rfl
        have e3 : updN d o' ((d, o) :: nw) = (d, o') :: nw := by
          show (if d = d then (d, o') else (d, o)) :: updN d o' nw = _
          rw [if_pos rfl, e2]
        rw [e3]
        exact .head hne
      · exact absurd (List.mem_map.mpr ⟨_, q, e.symm⟩) nd.1
    · have e3 : updN d o' (p :: nw) = p :: updN d o' nw := by
        show (if p.1 = d then (d, o') else p) :: updN d o' nw = _
        rw [if_neg e]
      rw [e3]
      refine .tail e (Upd.of_nodup nd.2 ?_)
      rcases List.mem_cons.mp h with q | q
      · rw [← q] at e; exact absurd rfl e
      · exact q
noncomputable def Fx.extBut (it : Addr) (nw nw' : List (Addr × Obj)) : Prop := ∀ p ∈ nw, p.1 ≠ it → p ∈ nw'

/-! a store of a name -/
theorem Rel.store {c : Cx} {nw : List (Addr × Obj)} {σ σ' : Sg} {s : Shared} {x : Str} {v : V} {y : Value} {Q : Unit → Shared → Prop} {E : Value → Shared → Prop} (C : CxOk X c σ.d) (r : Rel X c nw σ s) (h : σ.put x v = some σ') (hv : VR X nw v y)
    (k : ∀ s', Rel X c nw σ' s' → Q () s') : wpAny (model pr X.w) c.A (storeName c.env x y) Q E s := by
  obtain ⟨hl, l', hp, rfl⟩ := put_spec h
  obtain ⟨g, m, T, B, D, F, N, nd, hs, l, t⟩ := r
  refine PyProof.Rows.stN F N (fun h' F' N' => k _ ⟨g, _, T, B, D, F', N', nd, hs, fun z u hu => ?_, t⟩) C.fn ?_
  · rcases lookV_put hp z u hu with ⟨rfl, rfl⟩ | ⟨hz, hq⟩
    · exact ⟨y, if_pos rfl, hv⟩
    · obtain ⟨y', a, b⟩ := l z u hq
      exact ⟨y', by show (if z = x then some y else m z) = _; rw [if_neg hz]; exact a, b⟩
  · show c.cs.names.lookup x = _
    rw [hs.1]; exact hl

/-! a store of a field -/
theorem mem_of_shapes {ks : List Str} (h : ks ∈ shapes) : ks.length ≤ 8 := (shape_facts ks h).2.1
theorem VR.sc {nw : List (Addr × Obj)} {t t' : Tel} {x : Str} {v : V} {y : Value} (h : t.set x v = some t') (hv : VR X nw v y) : Sc v y := by
  rcases set_kind h with ⟨a, rfl⟩ | ⟨a, rfl⟩
  · cases hv; exact .int _ _
  · cases hv; exact .str _ _ (by assumption)
theorem putL_len {x : Str} {hsh : Int} {k v : Value} : ∀ {es : List DictEntry}, (putL x hsh k v es).length ≤ es.length + 1
  | [] => Nat.le_refl _
  | e :: es => by
    unfold putL
    split
    · exact Nat.le_succ _
    · exact Nat.succ_le_succ putL_len
theorem Rel.field {c : Cx} {nw : List (Addr × Obj)} {σ : Sg} {s : Shared} {x : Str} {v : V} {y : Value} {t' : Tel} {Q : Unit → Shared → Prop} {E : Value → Shared → Prop} (H : KOk X) (C : CxOk X c σ.d) (r : Rel X c nw σ s) (h : σ.tel.set x v = some t') (hv : VR X nw v y)
    (k : ∀ nw' s', X.ext nw nw' → Rel X c nw' { σ with tel := t' } s' → Q () s') : wpAny (model pr X.w) c.A (setAttr (.ref X.T) x y) Q E s := by
  have sc := hv.sc h
  obtain ⟨hx, gx, go⟩ := set_get h
  obtain ⟨g, m, T, B, D, F, N, nd, hs, l, ks, es, n, hk, hes, h0, hT, hD, hne⟩ := r
  have Kg : X.K.In g := C.kin.keeps B.stays
  have I := PySem.W.InstAt.of_news N hT hD
  have hlen : (putL x (PyData.keyHash X.w.params x) (.str x (s.toks + 1)) y es).length ≤ 1000 := Nat.le_trans putL_len (by rw [hes.len]; have := mem_of_shapes hk; omega)
  have hl : (getL x es).isSome = true := by
    by_cases hm : x ∈ ks
    · obtain ⟨u, y', h1, _⟩ := hes.get hm
      rw [h1]; rfl
    · rw [hes.get_none hm]; rfl
  have ext : X.ext nw (updN X.D (dictOf (putL x (PyData.keyHash X.w.params x) (.str x (s.toks + 1)) y es) (putN x es n)) nw) := fun p hp hd => updN_other hp hd
  refine PySem.W.set_dict F Kg N I rfl H.cset H.cover (H.ctake x hx) H.chas hl rfl (Upd.of_nodup nd hD) hlen fun h' F' N' => ?_
  refine k _ _ ext ⟨g, m, T, B, D, F', N', by rw [updN_keys]; exact nd, hs, l.mono ext, ?_⟩
  by_cases hm : x ∈ ks
  · refine ⟨ks, _, _, hk, hes.put_old sc gx (fun z _ hz => go z hz) (shape_facts ks hk).1 hm, fun z hz hzk => ?_, updN_other hT hne, updN_mem hD, hne⟩
    rw [go z (fun e => hzk (e ▸ hm))]
    exact h0 z hz hzk
  · refine ⟨ks ++ [x], _, _, ((shape_facts ks hk).2.2.2 x hx hm).1, hes.put_new sc gx (fun z hz => go z (fun e => hm (e ▸ hz))) hm, fun z hz hzk => ?_, updN_other hT hne, updN_mem hD, hne⟩
    have hzx : z ≠ x := fun e => hzk (e ▸ List.mem_append_right _ (.head _))
    rw [go z hzx]
    exact h0 z hz fun q => hzk (List.mem_append_left _ q)
end Mine
end
section
set_option autoImplicit false
set_option maxRecDepth 100000
set_option linter.all false
namespace Mine
open PySem PySem.W PySem.Calls PyProof.Rows
variable {X : Fx}

/-! statements -/
inductive Out | next | ret (v : V) | brk | cont | exc (c : Nat)
noncomputable def Ks.at {R : Type} (k : Ks R) (o : Out) (σ : Sg) : Option R := match o with
  | .next => k.next σ
  | .ret v => k.ret v σ
  | .brk => k.brk σ
  | .cont => k.cont σ
  | .exc c => k.exc c σ
noncomputable def OutR (X : Fx) (nw : List (Addr × Obj)) (o : Out) (f : Flow) : Prop := match o, f with
  | .next, .next => True
  | .ret v, .ret y => VR X nw v y
  | .brk, .brk => True
  | .cont, .cont => True
  | _, _ => False
/-- what a piece of code does, seen from a frame -/
noncomputable def SDo (X : Fx) (t : Env → Sem Flow) (σ : Sg) (o : Out) (σ' : Sg) : Prop := σ'.d = σ.d ∧ ∀ c, CxOk X c σ.d → ∀ nw s (Q : Flow → Shared → Prop) (E : Value → Shared → Prop), Rel X c nw σ s →
  (∀ nw' f s', X.ext nw nw' → Rel X c nw' σ' s' → OutR X nw' o f → Q f s') →
  (∀ C, o = .exc C → ∀ nw' s₁ e h', X.ext nw nw' → Rel X c nw' σ' s₁ → Heap.MadeExcOf s₁.heap h' e (.ref C) [] → E (.ref e) { s₁ with heap := h' }) →
  wpAny (model pr X.w) c.A (t c.env) Q E s
noncomputable abbrev SExs (X : Fx) (l : List Stmt) := SDo X (execs l)
noncomputable abbrev SStm (X : Fx) (st : Stmt) := SDo X (exec st)

theorem SExs.nil {σ : Sg} : SExs X [] σ .next σ := ⟨rfl, fun c C nw s Q E rl k _ => wpAny_execs_nil (k nw _ _ .refl rl trivial)⟩
theorem CxOk.to {c : Cx} {d d' : Nat} (C : CxOk X c d) (e : d' = d) : CxOk X c d' := e ▸ C
theorem SExs.cons {st : Stmt} {l : List Stmt} {σ σ1 σ' : Sg} {o : Out} (h1 : SStm X st σ .next σ1) (h2 : SExs X l σ1 o σ') : SExs X (st :: l) σ o σ' :=
  ⟨h2.1.trans h1.1, fun c C nw s Q E rl k ke => wpAny_execs_cons (h1.2 c C nw s _ E rl (fun nw1 f s1 e1 r1 h => by
    cases f <;> first | cases h; done | skip
    exact h2.2 c (C.to h1.1) nw1 s1 Q E r1 (fun nw2 f s2 e2 => k nw2 f s2 (e1.trans e2)) fun C hC nw2 s2 e h' e2 => ke C hC nw2 s2 e h' (e1.trans e2)) fun _ h => by cases h)⟩
theorem SExs.stop {st : Stmt} {l : List Stmt} {σ σ' : Sg} {o : Out} (h1 : SStm X st σ o σ') (ho : o ≠ .next) : SExs X (st :: l) σ o σ' :=
  ⟨h1.1, fun c C nw s Q E rl k ke => wpAny_execs_cons (h1.2 c C nw s _ E rl (fun nw1 f s1 e1 r1 h => by
    cases f with
    | next => cases o <;> first | exact absurd rfl ho | exact h.elim
    | _ => exact k nw1 _ s1 e1 r1 h) ke)⟩
theorem SStm.pass {pos : Pos} {σ : Sg} : SStm X (.Pass pos) σ .next σ := ⟨rfl, fun c C nw s Q E rl k _ => wpAny_Pass (k nw _ _ .refl rl trivial)⟩
theorem SStm.brk {pos : Pos} {σ : Sg} : SStm X (.Break pos) σ .brk σ := ⟨rfl, fun c C nw s Q E rl k _ => wpAny_Break (k nw _ _ .refl rl trivial)⟩
theorem SStm.cont {pos : Pos} {σ : Sg} : SStm X (.Continue pos) σ .cont σ := ⟨rfl, fun c C nw s Q E rl k _ => wpAny_Continue (k nw _ _ .refl rl trivial)⟩
theorem SStm.ret {e : Expr} {pos : Pos} {σ : Sg} {v : V} {t : Tel} (h : SEv X e σ v t) : SStm X (.Return (some e) pos) σ (.ret v) { σ with tel := t } :=
  ⟨rfl, fun c C nw s Q E rl k _ => wpAny_Return_some (h c C nw s _ E rl fun nw1 y s1 e1 r1 v1 => k nw1 (.ret y) s1 e1 r1 v1)⟩
/-- forms whose value is at once stored -/
noncomputable def plainV : Expr → Bool
  | .ListComp .. => false
  | .SetComp .. => false
  | .DictComp .. => false
  | .Set .. => false
  | _ => true
theorem swaps_none {e : Expr} {t : Option Expr} {n : Nat} {env : Env} (h : plainV e = true) : swapsWith e t n env = pure false := by
  cases e <;> first | rfl | cases h
theorem SStm.expr {e : Expr} {pos : Pos} {σ : Sg} {v : V} {t : Tel} (hp : plainV e = true) (h : SEv X e σ v t) : SStm X (.Expr e pos) σ .next { σ with tel := t } :=
  ⟨rfl, fun c C nw s Q E rl k _ => wpAny_Expr_any (h c C nw s _ E rl fun nw1 y s1 e1 r1 v1 => k nw1 .next s1 e1 r1 trivial)
    (by show (c.cs.kind == .module && _) = false; rw [C.fn]; rfl) (swaps_none hp)⟩
theorem SStm.assign {x : Str} {e : Expr} {p pos : Pos} {σ σ' : Sg} {v : V} {t : Tel} (hp : plainV e = true) (h : SEv X e σ v t) (hs : ({ σ with tel := t } : Sg).put x v = some σ') : SStm X (.Assign [.Name x p] e pos) σ .next σ' := by
  refine ⟨?_, fun c C nw s Q E rl k _ => wpAny_Assign_Name (h c C nw s _ E rl fun nw1 y s1 e1 r1 v1 => r1.store (σ := { σ with tel := t }) C hs v1 fun s2 r2 => k nw1 .next s2 e1 r2 trivial) (swaps_none hp)⟩
  obtain ⟨_, l, _, rfl⟩ := put_spec hs
  rfl
theorem isSelf_name {σ : Sg} {o : Expr} (h : isSelf X.wd σ o = true) : ∃ x p, o = .Name x p ∧ nameV X.wd σ x = some .self := by
  unfold isSelf at h
  split at h
  · rename_i x p
    refine ⟨x, p, rfl, ?_⟩
    split at h
    · assumption
    · cases h
  · cases h
theorem nameV_tel {σ : Sg} {t : Tel} {x : Str} : nameV X.wd { σ with tel := t } x = nameV X.wd σ x := rfl
theorem SStm.setF {o : Expr} {a : Str} {e : Expr} {p pos : Pos} {σ : Sg} {v : V} {t t' : Tel} (H : KOk X) (hp : plainV e = true) (ho : isSelf X.wd σ o = true) (h : SEv X e σ v t) (hs : t.set a v = some t') : SStm X (.Assign [.Attribute o a p] e pos) σ .next { σ with tel := t' } := by
  obtain ⟨x, q, rfl, hx⟩ := isSelf_name ho
  refine ⟨rfl, fun c C nw s Q E rl k _ => plainObj_wpAny_Assign_Attribute (h c C nw s _ E rl fun nw1 y s1 e1 r1 v1 => ?_) (swaps_none hp)⟩
  refine SEv.name H (σ := { σ with tel := t }) hx c C nw1 s1 _ E r1 fun nw2 y2 s2 e2 r2 v2 => ?_
  cases v2
  exact Rel.field H (σ := { σ with tel := t }) C r2 hs (v1.mono e2) fun nw3 s3 e3 r3 => k nw3 .next s3 ((e1.trans e2).trans e3) r3 trivial
noncomputable def AugOk (op : Operator) (a b v : V) : Prop := ∀ (X : Fx) (c : Cx) (nw : List (Addr × Obj)) (σ : Sg) (s : Shared) (x y : Value) (Q : Value → Shared → Prop) (E : Value → Shared → Prop), VR X nw a x → VR X nw b y → Rel X c nw σ s →
  (∀ z s', Rel X c nw σ s' → VR X nw v z → Q z s') → wpAny (model pr X.w) c.A (inplaceOp op x y) Q E s
theorem augV_ok {R : Type} {op : Operator} {a b : V} {k : V → Option R} {r : R} (h : augV op a b k = some r) : ∃ v, k v = some r ∧ AugOk op a b v := by
  unfold augV at h
  split at h
  · exact ⟨_, h, fun X c nw σ s x y Q E ha hb rl kk => by cases ha; cases hb; exact AutoIntOps.iadd_0 (kk _ _ (rl.toks rfl) (.int _ _))⟩
  · exact ⟨_, h, fun X c nw σ s x y Q E ha hb rl kk => by cases ha; cases hb; exact AutoIntOps.isub_0 (kk _ _ (rl.toks rfl) (.int _ _))⟩
  · cases h
theorem SStm.augN {x : Str} {op : Operator} {e : Expr} {p pos : Pos} {σ σ' : Sg} {u v w : V} {t : Tel} (H : KOk X) (hx : nameV X.wd σ x = some u) (h : SEv X e σ v t) (ho : AugOk op u v w) (hs : ({ σ with tel := t } : Sg).put x w = some σ') : SStm X (.AugAssign (.Name x p) op e pos) σ .next σ' := by
  have hd : σ'.d = σ.d := by
    obtain ⟨_, l, _, rfl⟩ := put_spec hs
    rfl
  refine ⟨hd, fun c C nw s Q E rl k _ => ?_⟩
  obtain ⟨hl, _, _, _⟩ := put_spec hs
  unfold nameV at hx
  split at hx
  · cases hx
  · rw [show σ.sc.names.lookup x = some .local from hl] at hx
    have r0 := rl
    obtain ⟨g, m, T, B, D, F, N, nd, hsc, l, tt⟩ := rl
    obtain ⟨y0, hy, v0⟩ := l x u hx
    refine wpAny_AugAssign_Name (wpAny_loadName_local C.fn (by show c.cs.names.lookup x = _; rw [hsc.1]; exact hl) F.ns hy (h c C nw s _ E r0 fun nw1 y s1 e1 r1 v1 => ?_))
    exact ho X c nw1 { σ with tel := t } s1 _ _ _ E (v0.mono e1) v1 r1 fun z s2 r2 v2 => r2.store (σ := { σ with tel := t }) C hs v2 fun s3 r3 => k nw1 .next s3 e1 r3 trivial
theorem SStm.augF {o : Expr} {a : Str} {op : Operator} {e : Expr} {p pos : Pos} {σ : Sg} {u v w : V} {t t' : Tel} (H : KOk X) (hs : isSelf X.wd σ o = true) (hu : σ.tel.get a = some u) (h : SEv X e σ v t) (ho : AugOk op u v w) (ht : t.set a w = some t') : SStm X (.AugAssign (.Attribute o a p) op e pos) σ .next { σ with tel := t' } := by
  obtain ⟨x, q, rfl, hx⟩ := isSelf_name hs
  refine ⟨rfl, fun c C nw s Q E rl k _ => wpAny_AugAssign_AttributeAny (SEv.name H hx c C nw s _ E rl fun nw0 y0 s0 e0 r0 v0 => ?_)⟩
  cases v0
  refine read_field H C r0 hu fun y1 s1 r1 v1 => h c C nw0 s1 _ E r1 fun nw2 y2 s2 e2 r2 v2 => ?_
  exact ho X c nw2 { σ with tel := t } s2 _ _ _ E (v1.mono e2) v2 r2 fun z s3 r3 v3 => Rel.field H (σ := { σ with tel := t }) C r3 ht v3 fun nw4 s4 e4 r4 => k nw4 .next s4 ((e0.trans e2).trans e4) r4 trivial
theorem SStm.ite {t : Expr} {b o : List Stmt} {pos : Pos} {σ σ' : Sg} {c : Bool} {t₁ : Tel} {out : Out} (h : STst X t σ c t₁) (h2 : SExs X (match c with | true => b | false => o) { σ with tel := t₁ } out σ') : SStm X (.If t b o pos) σ out σ' := by
  refine ⟨h2.1, fun cx C nw s Q E rl k ke => wpAny_If (h cx C nw s _ E rl fun nw1 s1 e1 r1 => ?_)⟩
  have := h2.2 cx C nw1 s1 Q E r1 (fun nw2 f s2 e2 => k nw2 f s2 (e1.trans e2)) fun C hC nw2 s2 e h' e2 => ke C hC nw2 s2 e h' (e1.trans e2)
  cases c <;> exact this
theorem SStm.assert {t : Expr} {pos : Pos} {σ : Sg} {t₁ : Tel} (h : STst X t σ true t₁) : SStm X (.Assert t none pos) σ .next { σ with tel := t₁ } :=
  ⟨rfl, fun cx C nw s Q E rl k _ => wpAny_Assert_holds (h cx C nw s _ E rl fun nw1 s1 e1 r1 => ⟨rfl, k nw1 .next s1 e1 r1 trivial⟩)⟩
/-! several stores -/
theorem SPutAll.namesOf {env : Env} : ∀ {ts : List Expr} {xs : List Str}, namesOf? ts = some xs → (assignEach ts env).length = xs.length ∧ (∀ p ∈ assignEach ts env, p.1 = false) := by
  intro ts
  induction ts with
  | nil => intro xs h; cases h; exact ⟨rfl, fun _ h => by cases h⟩
  | cons e r ih =>
    intro xs h
    cases e with
    | Name x p =>
      unfold namesOf? at h
      cases q : namesOf? r with
      | none => rw [q] at h; cases h
      | some l =>
        rw [q] at h
        cases h
        obtain ⟨a, b⟩ := ih q
        refine ⟨congrArg (· + 1) a, fun p hp => ?_⟩
        rcases List.mem_cons.mp hp with e | hp
        · rw [e]
        · exact b p hp
    | _ => cases h
theorem Rel.putAll {c : Cx} {nw : List (Addr × Obj)} : ∀ {ts : List Expr} {xs : List Str} {vs : List V} {ys : List Value} {σ σ' : Sg} {s : Shared} {Q : Unit → Shared → Prop} {E : Value → Shared → Prop}, namesOf? ts = some xs → CxOk X c σ.d → Rel X c nw σ s → VRs X nw vs ys → Mine.putAll xs vs σ = some σ' →
    (σ'.d = σ.d → ∀ s', Rel X c nw σ' s' → Q () s') → wpAny (model pr X.w) c.A (assignInOrder ((assignEach ts c.env).map (·.2)) ys) Q E s := by
  intro ts
  induction ts with
  | nil =>
    intro xs vs ys σ σ' s Q E hn C r v h k
    cases hn
    cases v with
    | nil => cases h; exact PyProof.Rows.assignInOrder_nil (k rfl s r)
    | cons _ _ _ _ _ _ => cases h
  | cons e rest ih =>
    intro xs vs ys σ σ' s Q E hn C r v h k
    cases e with
    | Name x p =>
      unfold namesOf? at hn
      cases q : namesOf? rest with
      | none => rw [q] at hn; cases hn
      | some l =>
        rw [q] at hn
        cases hn
        cases v with
        | nil => cases h
        | cons v y vs ys v1 v2 =>
          unfold Mine.putAll at h
          cases q2 : σ.put x v with
          | none => rw [q2] at h; cases h
          | some σ1 =>
            rw [q2] at h
            have hd : σ1.d = σ.d := by obtain ⟨_, l, _, rfl⟩ := put_spec q2; rfl
            refine PyProof.Rows.assignInOrder_cons (PyProof.Rows.assign_Name (r.store C q2 v1 fun s1 r1 => ?_))
            exact ih q (C.to hd) r1 v2 h fun e s2 r2 => k (e.trans hd) s2 r2
    | _ => cases hn
theorem putAll_d : ∀ {xs : List Str} {vs : List V} {σ σ' : Sg}, Mine.putAll xs vs σ = some σ' → σ'.d = σ.d
  | [], [], σ, σ', h => by cases h; rfl
  | x :: xs, v :: vs, σ, σ', h => by
    unfold Mine.putAll at h
    cases q2 : σ.put x v with
    | none => rw [q2] at h; cases h
    | some σ1 =>
      rw [q2] at h
      have hd : σ1.d = σ.d := by obtain ⟨_, l, _, rfl⟩ := put_spec q2; rfl
      exact (putAll_d h).trans hd
  | [], _ :: _, _, _, h => by cases h
  | _ :: _, [], _, _, h => by cases h
theorem putAll_len : ∀ {xs : List Str} {vs : List V} {σ σ' : Sg}, Mine.putAll xs vs σ = some σ' → xs.length = vs.length
  | [], [], σ, σ', h => rfl
  | x :: xs, v :: vs, σ, σ', h => by
    unfold Mine.putAll at h
    cases q2 : σ.put x v with
    | none => rw [q2] at h; cases h
    | some σ1 =>
      rw [q2] at h
      exact congrArg (· + 1) (putAll_len h)
  | [], _ :: _, _, _, h => by cases h
  | _ :: _, [], _, _, h => by cases h
theorem VR.tup_inv {nw : List (Addr × Obj)} {vs : List V} {y : Value} (h : VR X nw (.tup vs) y) : ∃ a o items n, y = .ref a ∧ At X nw a o ∧ o.cls = .type "tuple" ∧ o.data = .seq items n ∧ VRs X nw vs items.toList := by
  cases h with
  | tup _ a o items n h1 h2 h3 h4 h5 => exact ⟨a, o, items, n, rfl, h1, h2, h3, h4⟩
theorem Rel.unpack {c : Cx} {nw : List (Addr × Obj)} {σ σ' : Sg} {s : Shared} {ts : List Expr} {xs : List Str} {vs : List V} {y : Value} {kk : Nat} {pos : Pos} {Q : Unit → Shared → Prop} {E : Value → Shared → Prop} (hn : namesOf? ts = some xs) (C : CxOk X c σ.d) (r : Rel X c nw σ s) (v : VR X nw (.tup vs) y) (h : Mine.putAll xs vs σ = some σ')
    (k : ∀ s', Rel X c nw σ' s' → Q () s') : wpAny (model pr X.w) c.A (assign (.Tuple ts kk pos) c.env y) Q E s := by
  obtain ⟨a, o, items, n, rfl, h1, h2, h3, h4⟩ := v.tup_inv
  have hT := r.isTup C h1 h2 h3
  obtain ⟨g, m, T, B, D, F, N, nd, hs, l, t⟩ := r
  have hl := h4.length
  obtain ⟨q1, q2⟩ := SPutAll.namesOf (ts := ts) (xs := xs) (env := c.env) hn
  refine unpackN_ F N hT C.hd (by rw [q1, putAll_len h, hl]; rfl) (List.findIdx?_eq_none_iff.mpr fun p hp => by simpa using q2 p hp) fun h' F' N' => ?_
  exact Rel.putAll hn C ⟨g, m, T, B, D, F', N', nd, hs, l, t⟩ h4 h fun _ s' r' => k s' r'
theorem SStm.assignT {ts : List Expr} {xs : List Str} {e : Expr} {kk : Nat} {p pos : Pos} {σ σ' : Sg} {vs : List V} {t : Tel} (hp : plainV e = true) (hnt : notTup e = true) (hn : namesOf? ts = some xs) (h : SEv X e σ (.tup vs) t) (hs : Mine.putAll xs vs { σ with tel := t } = some σ') :
    SStm X (.Assign [.Tuple ts kk p] e pos) σ .next σ' := by
  refine ⟨putAll_d (σ := { σ with tel := t }) hs, fun c C nw s Q E rl k _ => Assign_Tuple (h c C nw s _ E rl fun nw1 y s1 e1 r1 v1 => ?_) (by unfold swapsWithSole; exact swaps_none hp) ?_⟩
  · exact Rel.unpack (σ := { σ with tel := t }) hn C r1 v1 hs fun s2 r2 => k nw1 .next s2 e1 r2 trivial
  · cases e <;> first | rfl | cases hnt
theorem swapped_eq {c : Cx} {ts vs : List Expr} {k k2 : Nat} {p p2 : Pos} (fn : c.cs.kind = .function) (h : swapOk c.cs ts vs = true) : swappedStores [.Tuple ts k p] (.Tuple vs k2 p2) c.env = pure (some (swapNames c.cs ts)) := by
  unfold swapOk at h
  simp only [Bool.and_eq_true] at h
  obtain ⟨⟨⟨⟨⟨⟨h1, h2⟩, h3⟩, h4⟩, h5⟩, h6⟩, h7⟩ := h
  have hb : c.env.blockKind = .function := by
    show (if c.cs.kind.isAnnotationScope then ScopeKind.function else c.cs.kind) = _
    rw [fn]; rfl
  have g1 : (!(ts.length == 2 || ts.length == 3) || vs.length != ts.length || c.env.blockKind != .function) = false := by
    rw [h1, hb]; simp only [bne, h2]; rfl
  unfold swappedStores
  dsimp only
  rw [g1, if_neg (by decide)]
  have g2 : ((swapNames c.cs ts).length != ts.length || (swapNames c.cs ts).eraseDups.length != (swapNames c.cs ts).length) = false := by
    simp only [bne, h4, h5]; rfl
  have h3' : vs.any isStarE = false := by
    have h3 : (!(vs.any isStarE)) = true := h3
    cases q : vs.any isStarE with
    | false => rfl
    | true => rw [q] at h3; exact absurd h3 (by decide)
  have h6' : vs.all (foldedForSure 8) = false := by simpa using h6
  have h7' : vs.all (constantsAlone 8) = false := by simpa using h7
  show (if vs.any isStarE = true then _ else _) = _
  rw [h3', if_neg (by decide)]
  show (if ((swapNames c.cs ts).length != ts.length || (swapNames c.cs ts).eraseDups.length != (swapNames c.cs ts).length) = true then _ else _) = _
  rw [g2, h6', h7']
  rfl
end Mine
end
section
set_option autoImplicit false
set_option maxRecDepth 100000
set_option linter.all false
namespace Mine
open PySem PySem.W PySem.Calls PyProof.Rows
variable {X : Fx}

/-! two or three stores whose order is turned -/
theorem VRs.append {nw : List (Addr × Obj)} : ∀ {a : List V} {b : List Value} {c : List V} {d : List Value}, VRs X nw a b → VRs X nw c d → VRs X nw (a ++ c) (b ++ d)
  | _, _, _, _, .nil, k => k
  | _, _, _, _, .cons _ _ _ _ h r, k => .cons _ _ _ _ h (VRs.append r k)
theorem VRs.reverse {nw : List (Addr × Obj)} : ∀ {a : List V} {b : List Value}, VRs X nw a b → VRs X nw a.reverse b.reverse
  | _, _, .nil => .nil
  | _, _, .cons _ _ _ _ h r => by
    rw [List.reverse_cons, List.reverse_cons]
    exact VRs.append r.reverse (.cons _ _ _ _ h .nil)
theorem Rel.putNames {c : Cx} {nw : List (Addr × Obj)} : ∀ {xs : List Str} {vs : List V} {ys : List Value} {σ σ' : Sg} {s : Shared} {Q : Unit → Shared → Prop} {E : Value → Shared → Prop}, CxOk X c σ.d → Rel X c nw σ s → VRs X nw vs ys → Mine.putAll xs vs σ = some σ' →
    (∀ s', Rel X c nw σ' s' → Q () s') → wpAny (model pr X.w) c.A (assignInOrder (xs.map fun n => bindName c.env n) ys) Q E s
  | [], [], _, σ, σ', s, Q, E, C, r, .nil, h, k => by cases h; exact PyProof.Rows.assignInOrder_nil (k s r)
  | x :: xs, v :: vs, _, σ, σ', s, Q, E, C, r, .cons _ y _ ys v1 v2, h, k => by
    unfold Mine.putAll at h
    cases q2 : σ.put x v with
    | none => rw [q2] at h; cases h
    | some σ1 =>
      rw [q2] at h
      have hd : σ1.d = σ.d := by obtain ⟨_, l, _, rfl⟩ := put_spec q2; rfl
      exact PyProof.Rows.assignInOrder_cons (PyProof.Rows.bindName_ (r.store C q2 v1 fun s1 r1 => Rel.putNames (C.to hd) r1 v2 h k))
  | [], _ :: _, _, _, _, _, _, _, _, _, _, h, _ => by cases h
  | _ :: _, [], _, _, _, _, _, _, _, _, _, h, _ => by cases h
theorem SStm.swap {ts es : List Expr} {k k2 : Nat} {p p2 pos : Pos} {σ σ' : Sg} {vs : List V} {t : Tel} (hw : swapOk σ.sc ts es = true) (ha : argsOk es = true) (hl : vs.length = es.length) (h : SEvs X es σ vs t) (hs : Mine.putAll (swapNames σ.sc ts).reverse vs.reverse { σ with tel := t } = some σ') :
    SStm X (.Assign [.Tuple ts k p] (.Tuple es k2 p2) pos) σ .next σ' := by
  refine ⟨putAll_d (σ := { σ with tel := t }) hs, fun c C nw s Q E rl kk _ => ?_⟩
  have hsc : c.cs = σ.sc := by
    obtain ⟨g, m, T, B, D, F, N, nd, hs, l, t⟩ := rl
    exact hs.1
  refine Assign_Tuple_swapped (names := swapNames σ.sc ts) ?_ rfl (hsc ▸ swapped_eq C.fn (hsc ▸ hw))
  refine SEv.tuple (Nat.lt_trans (argsOk_facts ha).1 (by decide)) hl h c C nw s _ E rl fun nw1 y s1 e1 r1 v1 => ?_
  obtain ⟨a, o, items, n, rfl, h1, h2, h3, h4⟩ := v1.tup_inv
  have hT := Rel.isTup (σ := { σ with tel := t }) C r1 h1 h2 h3
  have hlen := putAll_len hs
  rw [List.length_reverse, List.length_reverse] at hlen
  obtain ⟨g, m, T, B, D, F, N, nd, hs1, l, tt⟩ := r1
  refine unpackItemsN_ F N hT C.hd (by rw [hlen, h4.length]; rfl) fun h' F' N' => ?_
  exact Rel.putNames (σ := { σ with tel := t }) C ⟨g, m, T, B, D, F', N', nd, hs1, l, tt⟩ h4.reverse hs fun s2 r2 => kk nw1 .next s2 e1 r2 trivial

/-! while -/
theorem codeAny_while1 {w : World} {A : Around} {R : Result → Shared → Prop} {test : Expr} {body : List Stmt} {env : Env} {s : Shared}
    (turn : wpAny (model pr w) A (PySem.isTrue test env (eval test env)) (fun b s₂ =>
        if b then wpAny (model pr w) A (execs body env) (fun f s₃ => match f with
            | .next | .cont => codeAny (model pr w) A (.whileLoop test body [] env) R s₃
            | .brk => R (.ok .next) s₃
            | .ret v => R (.ok (.ret v)) s₃) (notedBy (model pr w) A env fun e s' => R (.error e) s') s₂
        else R (.ok .next) s₂)
        (notedBy (model pr w) A env fun e s' => R (.error e) s') s) : codeAny (model pr w) A (.whileLoop test body [] env) R s := by
  refine codeAny_of_tree ?_
  show wpAny _ A ((whileTurn test body [] env).onRaise (fun x => do noteFrame x env; theTreesLotGoes x)) _ _ s
  refine wpAny_noted ?_
  simp only [whileTurn]
  refine wpAny_bind (wpAny_mono turn (fun b s₂ h₂ => ?_) fun _ _ h' => h')
  cases b with
  | false =>
    simp only [Bool.false_eq_true, if_false] at h₂ ⊢
    exact wpAny_bind (wpAny_execs_nil (wpAny_pure h₂))
  | true =>
    simp only [if_true] at h₂ ⊢
    refine wpAny_bind (wpAny_mono h₂ (fun f s₃ h₃ => ?_) fun _ _ h' => h')
    cases f with
    | next => exact wpAny_pure ⟨rfl, h₃⟩
    | cont => exact wpAny_pure ⟨rfl, h₃⟩
    | brk => exact wpAny_pure h₃
    | ret v => exact wpAny_pure h₃
/-- the code of a loop; what it raises is never asked -/
noncomputable def SLoop (X : Fx) (code : Env → Code) (σ : Sg) (o : Out) (σ' : Sg) : Prop := σ'.d = σ.d ∧ (∀ C, o ≠ .exc C) ∧ ∀ c, CxOk X c σ.d → ∀ nw s (R : Result → Shared → Prop), Rel X c nw σ s →
  (∀ nw' f s', X.ext nw nw' → Rel X c nw' σ' s' → OutR X nw' o f → R (.ok f) s') → codeAny (model pr X.w) c.A (code c.env) R s
theorem SLoop.whileOut {t : Expr} {b : List Stmt} {σ : Sg} {t₁ : Tel} (h : STst X t σ false t₁) : SLoop X (fun env => .whileLoop t b [] env) σ .next { σ with tel := t₁ } :=
  ⟨rfl, (fun _ h => by cases h), fun c C nw s R rl k => codeAny_while1 (h c C nw s _ _ rl fun nw1 s1 e1 r1 => k nw1 .next s1 e1 r1 trivial)⟩
theorem SLoop.whileOn {t : Expr} {b : List Stmt} {σ σ1 σ' : Sg} {t₁ : Tel} {o o' : Out} (h : STst X t σ true t₁) (h1 : SExs X b { σ with tel := t₁ } o σ1) (ho : o = .next ∨ o = .cont) (h2 : SLoop X (fun env => .whileLoop t b [] env) σ1 o' σ') : SLoop X (fun env => .whileLoop t b [] env) σ o' σ' :=
  ⟨h2.1.trans h1.1, h2.2.1, fun c C nw s R rl k => codeAny_while1 (h c C nw s _ _ rl fun nw1 s1 e1 r1 => h1.2 c C nw1 s1 _ _ r1 (fun nw2 f s2 e2 r2 hf => by
    have key := h2.2.2 c (C.to h1.1) nw2 s2 R r2 fun nw3 f s3 e3 => k nw3 f s3 ((e1.trans e2).trans e3)
    rcases ho with rfl | rfl <;> cases f <;> first | exact key | exact hf.elim) fun C hC => by rcases ho with rfl | rfl <;> cases hC)⟩
theorem SLoop.whileBrk {t : Expr} {b : List Stmt} {σ σ1 : Sg} {t₁ : Tel} (h : STst X t σ true t₁) (h1 : SExs X b { σ with tel := t₁ } .brk σ1) : SLoop X (fun env => .whileLoop t b [] env) σ .next σ1 :=
  ⟨h1.1, (fun _ h => by cases h), fun c C nw s R rl k => codeAny_while1 (h c C nw s _ _ rl fun nw1 s1 e1 r1 => h1.2 c C nw1 s1 _ _ r1 (fun nw2 f s2 e2 r2 hf => by
    cases f <;> first | exact hf.elim | exact k nw2 .next s2 (e1.trans e2) r2 trivial) fun C hC => by cases hC)⟩
theorem SLoop.whileRet {t : Expr} {b : List Stmt} {σ σ1 : Sg} {t₁ : Tel} {v : V} (h : STst X t σ true t₁) (h1 : SExs X b { σ with tel := t₁ } (.ret v) σ1) : SLoop X (fun env => .whileLoop t b [] env) σ (.ret v) σ1 :=
  ⟨h1.1, (fun _ h => by cases h), fun c C nw s R rl k => codeAny_while1 (h c C nw s _ _ rl fun nw1 s1 e1 r1 => h1.2 c C nw1 s1 _ _ r1 (fun nw2 f s2 e2 r2 hf => by
    cases f <;> first | exact hf.elim | exact k nw2 (.ret _) s2 (e1.trans e2) r2 hf) fun C hC => by cases hC)⟩
theorem SStm.while {t : Expr} {b : List Stmt} {pos : Pos} {σ σ' : Sg} {o : Out} (h : SLoop X (fun env => .whileLoop t b [] env) σ o σ') : SStm X (.While t b [] pos) σ o σ' :=
  ⟨h.1, fun c C nw s Q E rl k _ => wpAny_While (h.2.2 c C nw s _ rl k)⟩
end Mine
end
section
set_option autoImplicit false
set_option maxRecDepth 100000
set_option linter.all false
namespace Mine
open PySem PySem.W PySem.Calls PyProof.Rows
variable {X : Fx}

/-! for -/
theorem codeAny_for1 {w : World} {A : Around} {R : Result → Shared → Prop} {target : Expr} {it : Value} {body : List Stmt} {env : Env} {s : Shared}
    (turn : wpAny (model pr w) A (pyNext it) (fun r s₁ => match r with
      | none => R (.ok .next) s₁
      | some v => wpAny (model pr w) A (letOwnedTupleGo target it v) (fun _ s₁' =>
          wpAny (model pr w) A (assign target env v) (fun _ s₂ => wpAny (model pr w) A (execs body env) (fun f s₃ => match f with
            | .next | .cont => codeAny (model pr w) A (.forLoop target it body [] env) R s₃
            | .brk => R (.ok .next) s₃
            | .ret v => R (.ok (.ret v)) s₃) (notedBy (model pr w) A env fun e s' => R (.error e) s') s₂) (notedBy (model pr w) A env fun e s' => R (.error e) s') s₁') (notedBy (model pr w) A env fun e s' => R (.error e) s') s₁) (notedBy (model pr w) A env fun e s' => R (.error e) s') s) :
    codeAny (model pr w) A (.forLoop target it body [] env) R s := by
  refine codeAny_of_tree ?_
  show wpAny _ A ((forTurn target it body [] env).onRaise (fun x => do noteFrame x env; theTreesLotGoes x)) _ _ s
  refine wpAny_noted ?_
  simp only [forTurn]
  refine wpAny_bind (wpAny_standAt (wpAny_bind (wpAny_onRaise (wpAny_mono turn (fun r s₁ h₁ => ?_) fun _ _ h' => wpAny_standAt h'))))
  cases r with
  | none => exact wpAny_pure ⟨rfl, codeAny_block (wpAny_execs_nil h₁)⟩
  | some v =>
    refine wpAny_bind (wpAny_mono h₁ (fun _ s₁' h₁' => ?_) fun _ _ h' => h')
    refine wpAny_bind (wpAny_mono h₁' (fun _ s₂ h₂ => wpAny_bind (wpAny_mono h₂ (fun f s₃ h₃ => ?_) fun _ _ h' => h')) fun _ _ h' => h')
    cases f with
    | next => exact wpAny_pure ⟨rfl, h₃⟩
    | cont => exact wpAny_pure ⟨rfl, h₃⟩
    | brk => exact wpAny_pure h₃
    | ret v => exact wpAny_pure h₃

/-! the iterator in the ledger -/
noncomputable def itNames : List String := ["range_iterator", "list_iterator", "tuple_iterator"]
inductive ItAt (X : Fx) (nw : List (Addr × Obj)) (it : Addr) : List V → Prop
  | up (x : Int) (n : Nat) : (it, ({ cls := .type "range_iterator", data := .fields #[rawInt x, rawInt n, rawInt 1] } : Obj)) ∈ nw → ItAt X nw it (rangeUp n x)
  | dn (x : Int) (n : Nat) : (it, ({ cls := .type "range_iterator", data := .fields #[rawInt x, rawInt n, rawInt (-1)] } : Obj)) ∈ nw → ItAt X nw it (rangeDn n x)
  | lst (oi o : Obj) (a : Addr) (its : Array Value) (n i : Nat) (vs : List V) : (it, oi) ∈ nw → oi.cls = .type "list_iterator" → oi.data = .fields #[.ref a, .int i 0] → At X nw a o → o.cls = .type "list" → o.data = .seq its n → VRs X nw vs (its.toList.drop i) → ItAt X nw it vs
  | tup (oi o : Obj) (a : Addr) (its : Array Value) (n i : Nat) (vs : List V) : (it, oi) ∈ nw → oi.cls = .type "tuple_iterator" → oi.data = .fields #[.ref a, .int i 0] → At X nw a o → o.cls = .type "tuple" → o.data = .seq its n → VRs X nw vs (its.toList.drop i) → ItAt X nw it vs
theorem ItAt.entry {nw : List (Addr × Obj)} {it : Addr} {vs : List V} (h : ItAt X nw it vs) : ∃ o n fs, (it, o) ∈ nw ∧ o.cls = .type n ∧ n ∈ itNames ∧ o.data = .fields fs := by
  cases h with
  | up x n h => exact ⟨_, _, _, h, rfl, by decide, rfl⟩
  | dn x n h => exact ⟨_, _, _, h, rfl, by decide, rfl⟩
  | lst oi o a its n i vs h h1 h2 => exact ⟨_, _, _, h, h1, by decide, h2⟩
  | tup oi o a its n i vs h h1 h2 => exact ⟨_, _, _, h, h1, by decide, h2⟩
theorem isIt_of {o : Obj} {n : String} (h : o.cls = .type n) (hn : n ∈ itNames) : isIt o = true := by
  unfold isIt
  rw [h]
  simp only [itNames, List.mem_cons, List.not_mem_nil, or_false] at hn
  rcases hn with rfl | rfl | rfl <;> decide
theorem ItAt.facts {c : Cx} {nw : List (Addr × Obj)} {σ : Sg} {s : Shared} {it : Addr} {vs : List V} (r : Rel X c nw σ s) (h : ItAt X nw it vs) : it ≠ X.D ∧ it ≠ X.T ∧ ∀ p ∈ nw, isIt p.2 = false → p.1 ≠ it := by
  obtain ⟨o, n, fs, hm, hc, hn, hd⟩ := h.entry
  obtain ⟨g, m, T, B, D, F, N, nd, hs, l, ks, es, n', hk, hes, h0, hT, hD, hne⟩ := r
  refine ⟨fun e => ?_, fun e => ?_, fun p hp hi e => ?_⟩
  · subst e
    have := nodup_same nd hm hD
    rw [this] at hd
    cases hd
  · subst e
    have := nodup_same nd hm hT
    rw [this] at hc
    cases hc
  · have := nodup_same nd hm (show (it, p.2) ∈ nw from e ▸ hp)
    rw [← this, isIt_of hc hn] at hi
    cases hi
theorem ItAt.mono {nw nw' : List (Addr × Obj)} {it : Addr} {vs : List V} (hd : it ≠ X.D) (e : X.ext nw nw') (h : ItAt X nw it vs) : ItAt X nw' it vs := by
  cases h with
  | up x n h => exact .up x n (e _ h hd)
  | dn x n h => exact .dn x n (e _ h hd)
  | lst oi o a its n i vs h h1 h2 h3 h4 h5 h6 => exact .lst oi o a its n i vs (e _ h hd) h1 h2 (h3.mono e) h4 h5 (h6.mono e)
  | tup oi o a its n i vs h h1 h2 h3 h4 h5 h6 => exact .tup oi o a its n i vs (e _ h hd) h1 h2 (h3.mono e) h4 h5 (h6.mono e)
theorem LocR.monoW {nw nw' : List (Addr × Obj)} {loc : List (Str × V)} {m : Str → Option Value} (e : X.extW nw nw') (h : LocR X nw loc m) : LocR X nw' loc m := fun x v q => by
  obtain ⟨y, a, b⟩ := h x v q
  exact ⟨y, a, b.monoW e⟩
theorem TelR.but {it : Addr} {nw nw' : List (Addr × Obj)} {t : Tel} (e : Fx.extBut it nw nw') (h1 : it ≠ X.D) (h2 : it ≠ X.T) (h : TelR X nw t) : TelR X nw' t := by
  obtain ⟨ks, es, n, a, b, c, d, f, g⟩ := h
  exact ⟨ks, es, n, a, b, c, e _ d h2.symm, e _ f h1.symm, g⟩
theorem Rel.upd {c : Cx} {nw : List (Addr × Obj)} {σ : Sg} {s : Shared} {it : Addr} {o o' : Obj} {vs : List V} (r : Rel X c nw σ s) (hi : ItAt X nw it vs) (hm : (it, o) ∈ nw) (s' : Shared) (hs : Heap.SameBut it s.heap s'.heap) (ho' : s'.heap.get? it = some o') (e2 : s'.gens = s.gens) (e3 : s'.os = s.os) :
    Rel X c (updN it o' nw) σ s' ∧ X.extW nw (updN it o' nw) := by
  obtain ⟨f1, f2, f3⟩ := hi.facts r
  obtain ⟨g, m, T, B, D, F, N, nd, hsc, l, t⟩ := r
  have eb : Fx.extBut it nw (updN it o' nw) := fun p hp hne => updN_other hp hne
  have ew : X.extW nw (updN it o' nw) := fun p hp _ hi => eb p hp (f3 p hp hi)
  exact ⟨⟨g, m, T, B, D, F.update N hm hs, N.update hm hs ho', by rw [updN_keys]; exact nd, by rw [e2, e3]; exact hsc, l.monoW ew, t.but eb f1 f2⟩, ew⟩
theorem Rel.drop {c : Cx} {nw : List (Addr × Obj)} {σ : Sg} {s : Shared} {it : Addr} {vs : List V} (r : Rel X c nw σ s) (hi : ItAt X nw it vs) (s' : Shared) (hs : Heap.ExtBut it s.heap s'.heap) (e2 : s'.gens = s.gens) (e3 : s'.os = s.os) :
    Rel X c (nw.filter fun p => p.1 != it) σ s' := by
  obtain ⟨f1, f2, f3⟩ := hi.facts r
  obtain ⟨o, n, fs, hm, _, _, _⟩ := hi.entry
  obtain ⟨g, m, T, B, D, F, N, nd, hsc, l, t⟩ := r
  have eb : Fx.extBut it nw (nw.filter fun p => p.1 != it) := fun p hp hne => List.mem_filter.mpr ⟨hp, by simpa using hne⟩
  have ew : X.extW nw (nw.filter fun p => p.1 != it) := fun p hp _ hi => eb p hp (f3 p hp hi)
  have hne : ∀ b x, g.get? b = some x → b ≠ it := fun b x e hba => by rw [hba, N.fresh hm] at e; exact nomatch e
  refine ⟨g, m, T, B, D, ⟨F.ns.extBut hs (N.ne hm).symm, fun b x e => hs b x (hne b x e) (F.keep b x e), F.above⟩, fun p hp => ?_, ?_, by rw [e2, e3]; exact hsc, l.monoW ew, t.but eb f1 f2⟩
  · obtain ⟨hp, hpi⟩ := List.mem_filter.mp hp
    exact ⟨hs _ _ (by simpa using hpi) (N p hp).1, (N p hp).2⟩
  · exact List.Sublist.nodup (List.Sublist.map _ List.filter_sublist) nd
end Mine
end
section
set_option autoImplicit false
set_option maxRecDepth 100000
set_option linter.all false
namespace Mine
open PySem PySem.W PySem.Calls PyProof.Rows
variable {X : Fx}

theorem VRs.head {nw : List (Addr × Obj)} {v : V} {vs : List V} {its : Array Value} {i : Nat} (h : VRs X nw (v :: vs) (its.toList.drop i)) : ∃ y, its[i]? = some y ∧ VR X nw v y ∧ VRs X nw vs (its.toList.drop (i + 1)) := by
  generalize hd : its.toList.drop i = ys at h
  cases h with
  | cons _ y _ r h1 h2 =>
    have hi : i < its.toList.length := by
      rcases Nat.lt_or_ge i its.toList.length with q | q
      · exact q
      · rw [List.drop_eq_nil_of_le q] at hd; cases hd
    rw [List.drop_eq_getElem_cons hi] at hd
    injection hd with e1 e2
    refine ⟨y, ?_, h1, e2 ▸ h2⟩
    rw [← e1]
    simp at hi ⊢
theorem VRs.over {nw : List (Addr × Obj)} {its : Array Value} {i : Nat} (h : VRs X nw [] (its.toList.drop i)) : its[i]? = none := by
  generalize hd : its.toList.drop i = ys at h
  cases h
  rw [List.drop_eq_nil_iff] at hd
  simp at hd ⊢
  exact hd
theorem ItAt.next {c : Cx} {nw : List (Addr × Obj)} {σ : Sg} {s : Shared} {it : Addr} {items : List V} {Q : Option Value → Shared → Prop} {E : Value → Shared → Prop} (C : CxOk X c σ.d) (r : Rel X c nw σ s) (hi : ItAt X nw it items)
    (k0 : items = [] → ∀ nw' s', Fx.extBut it nw nw' → Rel X c nw' σ s' → Q none s')
    (k1 : ∀ v vs, items = v :: vs → ∀ nw' y s', Fx.extBut it nw nw' → Rel X c nw' σ s' → VR X nw' v y → ItAt X nw' it vs → Q (some y) s') : wpAny (model pr X.w) c.A (pyNext (.ref it)) Q E s := by
  have eD : ∀ (s' : Shared), s'.gens = s.gens → s'.os = s.os → Heap.ExtBut it s.heap s'.heap → items = [] → Q none s' := fun s' e2 e3 hs hn =>
    k0 hn _ s' (fun p hp hne => List.mem_filter.mpr ⟨hp, by simpa using hne⟩) (r.drop hi s' hs e2 e3)
  have eU : ∀ {o o' : Obj} (s' : Shared) (v : V) (vs : List V) (y : Value), s'.gens = s.gens → s'.os = s.os → (it, o) ∈ nw → Heap.SameBut it s.heap s'.heap → s'.heap.get? it = some o' → items = v :: vs → (X.extW nw (updN it o' nw) → VR X (updN it o' nw) v y) → (X.extW nw (updN it o' nw) → ItAt X (updN it o' nw) it vs) → Q (some y) s' := fun s' v vs y e2 e3 hm hs ho' hn hv hit => by
    obtain ⟨r', ew⟩ := r.upd hi hm s' hs ho' e2 e3
    exact k1 v vs hn _ y s' (fun p hp hne => updN_other hp hne) r' (hv ew) (hit ew)
  have hcell := hi
  cases hi with
  | up x n hm =>
    have hit : IsRangeIter s.heap it x n 1 := by
      obtain ⟨g, m, T, B, D, F, N, _⟩ := r
      exact N.get hm
    cases n with
    | zero => exact wpAny_pyNext_range_end C.hd hit (by decide) fun h' hs => eD _ rfl rfl hs rfl
    | succ n =>
      refine wpAny_pyNext_range_item hit (by omega) fun h' hi' hs => ?_
      have e : ((n + 1 : Nat) : Int) - 1 = (n : Int) := by omega
      refine eU _ _ _ _ rfl rfl hm hs hi' rfl (fun _ => .int _ _) fun _ => ?_
      have := updN_mem (o' := ({ cls := .type "range_iterator", data := .fields #[rawInt (x + 1), rawInt (((n + 1 : Nat) : Int) - 1), rawInt 1] } : Obj)) hm
      rw [e] at this ⊢
      exact .up (x + 1) n this
  | dn x n hm =>
    have hit : IsRangeIter s.heap it x n (-1) := by
      obtain ⟨g, m, T, B, D, F, N, _⟩ := r
      exact N.get hm
    cases n with
    | zero => exact wpAny_pyNext_range_end C.hd hit (by decide) fun h' hs => eD _ rfl rfl hs rfl
    | succ n =>
      refine wpAny_pyNext_range_item hit (by omega) fun h' hi' hs => ?_
      have e : ((n + 1 : Nat) : Int) - 1 = (n : Int) := by omega
      refine eU _ _ _ _ rfl rfl hm hs hi' rfl (fun _ => .int _ _) fun _ => ?_
      have := updN_mem (o' := ({ cls := .type "range_iterator", data := .fields #[rawInt (x + -1), rawInt (((n + 1 : Nat) : Int) - 1), rawInt (-1)] } : Obj)) hm
      rw [e] at this ⊢
      exact .dn (x - 1) n this
  | lst oi o a its n i vs hm h1 h2 h3 h4 h5 h6 =>
    have hit : s.heap.IsListIter it a i := by
      obtain ⟨g, m, T, B, D, F, N, _⟩ := r
      exact ⟨_, N.get hm, h1, h2⟩
    have hl : s.heap.IsList a its := r.isList C h3 h4 h5
    cases items with
    | nil => exact wpAny_pyNext_list_end C.hd hit hl h6.over fun h' hs => eD _ rfl rfl hs rfl
    | cons v vs =>
      obtain ⟨y, hy, hv, hr⟩ := h6.head
      refine wpAny_pyNext_list_item hit hl hy fun h' hi' hs => ?_
      obtain ⟨o', ho', c1, c2⟩ := hi'
      have hio : isIt o = false := by unfold isIt; rw [h4]; decide
      exact eU _ _ _ _ rfl rfl hm hs ho' rfl (fun e => hv.monoW e) fun e => .lst o' o a its n (i + 1) vs (updN_mem hm) c1 c2 (h3.monoW e hio) h4 h5 (hr.monoW e)
  | tup oi o a its n i vs hm h1 h2 h3 h4 h5 h6 =>
    have hit : s.heap.IsTupleIter it a i := by
      obtain ⟨g, m, T, B, D, F, N, _⟩ := r
      exact ⟨_, N.get hm, h1, h2⟩
    have hl : s.heap.IsTuple a its := r.isTup C h3 h4 h5
    cases items with
    | nil => exact wpAny_pyNext_tuple_end C.hd hit hl h6.over fun h' hs => eD _ rfl rfl hs rfl
    | cons v vs =>
      obtain ⟨y, hy, hv, hr⟩ := h6.head
      refine wpAny_pyNext_tuple_item hit hl hy fun h' hi' hs => ?_
      obtain ⟨o', ho', c1, c2⟩ := hi'
      have hio : isIt o = false := by unfold isIt; rw [h4]; decide
      exact eU _ _ _ _ rfl rfl hm hs ho' rfl (fun e => hv.monoW e) fun e => .tup o' o a its n (i + 1) vs (updN_mem hm) c1 c2 (h3.monoW e hio) h4 h5 (hr.monoW e)

/-! what the target takes -/
theorem Rel.letGo {c : Cx} {nw : List (Addr × Obj)} {σ : Sg} {s : Shared} {it : Addr} {items : List V} {t : Expr} {y : Value} {Q : Unit → Shared → Prop} {E : Value → Shared → Prop} (r : Rel X c nw σ s) (hi : ItAt X nw it items) (k : Q () s) : wpAny (model pr X.w) c.A (letOwnedTupleGo t (.ref it) y) Q E s := by
  obtain ⟨o, n, fs, hm, hc, hn, hd⟩ := hi.entry
  have ho : s.heap.get? it = some o := by
    obtain ⟨g, m, T, B, D, F, N, _⟩ := r
    exact N.get hm
  have key : wpAny (model pr X.w) c.A (match (y : Value) with
    | .ref a => (do
      let o ← load it
      match o.cls, o.data with
      | .type n, .fields vs =>
        if ["enumerate", "zip", "dict_itemiterator", "dict_reverseitemiterator", "odict_iterator", "itertools.zip_longest", "itertools.pairwise"].contains n && vs[0]? == some (rawInt a) then
          rule "for.unpacks-the-owned-tuple"
          updateField it 0 .none
      | _, _ => pure () : Sem Unit)
    | _ => pure ()) Q E s := by
    cases y with
    | ref a =>
      refine wpAny_bind (wpAny_load ho ?_)
      rw [hc, hd]
      dsimp only
      have hb : ["enumerate", "zip", "dict_itemiterator", "dict_reverseitemiterator", "odict_iterator", "itertools.zip_longest", "itertools.pairwise"].contains n = false := by
        simp only [itNames, List.mem_cons, List.not_mem_nil, or_false] at hn
        rcases hn with rfl | rfl | rfl <;> decide
      rw [hb]
      exact wpAny_pure k
    | _ => exact wpAny_pure k
  unfold letOwnedTupleGo
  split
  · cases y <;> exact key
  · cases y <;> exact key
  · exact wpAny_pure k
theorem Rel.bindT {c : Cx} {nw : List (Addr × Obj)} {σ σ' : Sg} {s : Shared} {t : Expr} {v : V} {y : Value} {Q : Unit → Shared → Prop} {E : Value → Shared → Prop} (C : CxOk X c σ.d) (r : Rel X c nw σ s) (hv : VR X nw v y) (h : Mine.bindT t v σ = some σ')
    (k : σ'.d = σ.d → ∀ s', Rel X c nw σ' s' → Q () s') : wpAny (model pr X.w) c.A (assign t c.env y) Q E s := by
  unfold Mine.bindT at h
  split at h
  · have hd : σ'.d = σ.d := by obtain ⟨_, l, _, rfl⟩ := put_spec h; rfl
    exact PyProof.Rows.assign_Name (r.store C h hv fun s1 r1 => k hd s1 r1)
  · split at h
    · rename_i hx
      exact Rel.unpack hx C r hv h fun s1 r1 => k (putAll_d h) s1 r1
    · cases h
  · cases h
theorem bindT_d {t : Expr} {v : V} {σ σ' : Sg} (h : Mine.bindT t v σ = some σ') : σ'.d = σ.d := by
  unfold Mine.bindT at h
  split at h
  · obtain ⟨_, l, _, rfl⟩ := put_spec h; rfl
  · split at h
    · exact putAll_d h
    · cases h
  · cases h
noncomputable def extD (X : Fx) (it : Addr) (nw nw' : List (Addr × Obj)) : Prop := ∀ p ∈ nw, p.1 ≠ X.D → p.1 ≠ it → p ∈ nw'
noncomputable def SFor (X : Fx) (t : Expr) (items : List V) (b : List Stmt) (σ : Sg) (o : Out) (σ' : Sg) : Prop := σ'.d = σ.d ∧ (∀ C, o ≠ .exc C) ∧ ∀ c, CxOk X c σ.d → ∀ nw s it (R : Result → Shared → Prop), Rel X c nw σ s → ItAt X nw it items →
  (∀ nw' f s', extD X it nw nw' → Rel X c nw' σ' s' → OutR X nw' o f → R (.ok f) s') → codeAny (model pr X.w) c.A (.forLoop t (.ref it) b [] c.env) R s
theorem extD.of_but {it : Addr} {a b : List (Addr × Obj)} (h : Fx.extBut it a b) : extD X it a b := fun p hp _ hi => h p hp hi
theorem extD.trans {it : Addr} {a b c : List (Addr × Obj)} (h : extD X it a b) (k : extD X it b c) : extD X it a c := fun p hp hd hi => k p (h p hp hd hi) hd hi
theorem extD.of_ext {it : Addr} {a b : List (Addr × Obj)} (h : X.ext a b) : extD X it a b := fun p hp hd _ => h p hp hd
theorem SFor.out {t : Expr} {b : List Stmt} {σ : Sg} : SFor X t [] b σ .next σ :=
  ⟨rfl, (fun _ h => by cases h), fun c C nw s it R r hi k => codeAny_for1 (hi.next C r (fun _ nw' s' e r' => k nw' .next s' (.of_but e) r' trivial) fun v vs h => by cases h)⟩
theorem SFor.turn {t : Expr} {b : List Stmt} {v : V} {vs : List V} {σ σ1 : Sg} (hb : Mine.bindT t v σ = some σ1) {c : Cx} (C : CxOk X c σ.d) {nw : List (Addr × Obj)} {s : Shared} {it : Addr} {R : Result → Shared → Prop} (r : Rel X c nw σ s) (hi : ItAt X nw it (v :: vs)) {o : Out} {σ2 : Sg} (h1 : SExs X b σ1 o σ2) (he : ∀ C, o ≠ .exc C)
    (k : ∀ nw' f s', extD X it nw nw' → Rel X c nw' σ2 s' → OutR X nw' o f → ItAt X nw' it vs → match f with
      | .next | .cont => codeAny (model pr X.w) c.A (.forLoop t (.ref it) b [] c.env) R s'
      | .brk => R (.ok .next) s'
      | .ret v => R (.ok (.ret v)) s') : codeAny (model pr X.w) c.A (.forLoop t (.ref it) b [] c.env) R s := by
  have hD := (hi.facts r).1
  refine codeAny_for1 (hi.next C r (fun h => by cases h) fun v' vs' h nw' y s' e r' hv hi' => ?_)
  cases h
  refine Rel.letGo r' hi' (Rel.bindT C r' hv hb fun hd s2 r2 => ?_)
  exact h1.2 c (C.to hd) nw' s2 _ _ r2 (fun nw3 f s3 e3 r3 hf => k nw3 f s3 ((extD.of_but e).trans (.of_ext e3)) r3 hf (hi'.mono hD e3)) fun C hC => absurd hC (he C)
theorem SFor.on {t : Expr} {b : List Stmt} {v : V} {vs : List V} {σ σ1 σ2 σ' : Sg} {o o' : Out} (hb : Mine.bindT t v σ = some σ1) (h1 : SExs X b σ1 o σ2) (ho : o = .next ∨ o = .cont) (h2 : SFor X t vs b σ2 o' σ') : SFor X t (v :: vs) b σ o' σ' :=
  ⟨(h2.1.trans h1.1).trans (bindT_d hb), h2.2.1, fun c C nw s it R r hi k => SFor.turn hb C r hi h1 (fun C hC => by rcases ho with rfl | rfl <;> cases hC) fun nw3 f s3 e3 r3 hf hi3 => by
    have key := h2.2.2 c (C.to (h1.1.trans (bindT_d hb))) nw3 s3 it R r3 hi3 fun nw4 f s4 e4 => k nw4 f s4 (e3.trans e4)
    rcases ho with rfl | rfl <;> cases f <;> first | exact key | exact hf.elim⟩
theorem SFor.brk {t : Expr} {b : List Stmt} {v : V} {vs : List V} {σ σ1 σ2 : Sg} (hb : Mine.bindT t v σ = some σ1) (h1 : SExs X b σ1 .brk σ2) : SFor X t (v :: vs) b σ .next σ2 :=
  ⟨h1.1.trans (bindT_d hb), (fun _ h => by cases h), fun c C nw s it R r hi k => SFor.turn hb C r hi h1 (fun C hC => by cases hC) fun nw3 f s3 e3 r3 hf hi3 => by
    cases f <;> first | exact hf.elim | exact k nw3 .next s3 e3 r3 trivial⟩
theorem SFor.ret {t : Expr} {b : List Stmt} {v : V} {vs : List V} {σ σ1 σ2 : Sg} {u : V} (hb : Mine.bindT t v σ = some σ1) (h1 : SExs X b σ1 (.ret u) σ2) : SFor X t (v :: vs) b σ (.ret u) σ2 :=
  ⟨h1.1.trans (bindT_d hb), (fun _ h => by cases h), fun c C nw s it R r hi k => SFor.turn hb C r hi h1 (fun C hC => by cases hC) fun nw3 f s3 e3 r3 hf hi3 => by
    cases f <;> first | exact hf.elim | exact k nw3 (.ret _) s3 e3 r3 hf⟩
/-! the iterator comes -/
theorem inR_facts {a : Int} (h : inR a = true) : -10 ≤ a ∧ a ≤ 2000000 := by
  unfold inR at h
  rw [Bool.and_eq_true] at h
  exact ⟨of_decide_eq_true h.1, of_decide_eq_true h.2⟩
theorem toNat_size_up (a b : Int) : Builtin.Range.rangeSize a b 1 = ((b - a).toNat : Int) := by
  rw [rangeSize_one]; split <;> omega
theorem SStm.for {t e : Expr} {b : List Stmt} {pos : Pos} {σ σ' : Sg} {v : V} {items : List V} {t₁ : Tel} {o : Out} (hp : plainV e = true) (h : SEv X e σ v t₁) (hi : itemsV v = some items) (h2 : SFor X t items b { σ with tel := t₁ } o σ') : SStm X (.For t e b [] pos) σ o σ' := by
  refine ⟨h2.1, fun c C nw s Q E rl k _ => wpAny_For (h c C nw s _ E rl fun nw1 y s1 e1 r1 v1 => ?_) (fun x => by cases e <;> first | rfl | cases hp)⟩
  have fin : ∀ (oi : Obj), oi.isFreed = false → ItAt X ((s1.heap.objs.size, oi) :: nw1) s1.heap.objs.size items → codeAny (model pr X.w) c.A (.forLoop t (.ref s1.heap.objs.size) b [] c.env) (fun r s' => match r with | .ok f => Q f s' | .error e => cameBackBy (model pr X.w) c.A c.env E e s') { s1 with heap := s1.heap.push oi } := fun oi hf hia => by
    obtain ⟨g, m, F, N, cont⟩ := r1.alloc
    have fr := news_fresh N
    refine h2.2.2 c C _ _ s1.heap.objs.size _ (cont { s1 with heap := s1.heap.push oi } (s1.heap.objs.size, oi) rfl (F.push _) (N.push F _ hf)) hia fun nw3 f s3 e3 r3 hf => ?_
    exact k nw3 f s3 (e1.trans fun p hp hd => e3 p (List.mem_cons_of_mem _ hp) hd (fr p hp)) r3 hf
  unfold itemsV at hi
  split at hi
  · rename_i a b'
    cases hi
    cases v1 with
    | rng _ _ _ ta tb tc l ob h1 h2 h3 h4 =>
    subst h2
    have a1 := inR_facts h3
    have a2 := inR_facts h4
    have hr : IsRange s1.heap l a b' 1 ta tb tc := r1.at (σ := { σ with tel := t₁ }) C h1
    have hsm : Builtin.Range.small a b' 1 = true := by
      unfold Builtin.Range.small
      rw [toNat_size_up]
      simp [Builtin.Range.rangeFitsLong]
      omega
    refine wpAny_pyIter_range hr hsm ?_
    rw [toNat_size_up]
    exact fin _ rfl (.up a _ (.head _))
  · rename_i a b'
    cases hi
    cases v1 with
    | rng _ _ _ ta tb tc l ob h1 h2 h3 h4 =>
    subst h2
    have a1 := inR_facts h3
    have a2 := inR_facts h4
    have hr : IsRange s1.heap l a b' (-1) ta tb tc := r1.at (σ := { σ with tel := t₁ }) C h1
    have hsz : Builtin.Range.rangeSize a b' (-1) = ((a - b').toNat : Int) := by
      unfold Builtin.Range.rangeSize
      simp
      split <;> omega
    have hsm : Builtin.Range.small a b' (-1) = true := small_down (by omega) (by omega) (by omega) (by omega)
    refine wpAny_pyIter_range hr hsm ?_
    rw [hsz]
    exact fin _ rfl (.dn a _ (.head _))
  · cases hi
    cases v1 with
    | lst _ a ob its n h1 h2 h3 h4 h5 =>
    refine wpAny_pyIter_list (r1.isList (σ := { σ with tel := t₁ }) C h1 h2 h3) ?_
    exact fin _ rfl (.lst _ ob a its n 0 _ (.head _) rfl rfl (h1.mono .cons) h2 h3 (by simpa using h4.mono .cons))
  · cases hi
    cases v1 with
    | tup _ a ob its n h1 h2 h3 h4 h5 =>
    refine wpAny_pyIter_tuple (r1.isTup (σ := { σ with tel := t₁ }) C h1 h2 h3) ?_
    exact fin _ rfl (.tup _ ob a its n 0 _ (.head _) rfl rfl (h1.mono .cons) h2 h3 (by simpa using h4.mono .cons))
  · cases hi
end Mine
end
section
set_option autoImplicit false
set_option maxRecDepth 100000
set_option linter.all false
namespace Mine
open PySem PySem.W PySem.Calls PyProof.Rows
variable {X : Fx}

/-! an exception of the text's own, raised and caught in one frame -/
theorem SStm.raise {x : Str} {C : Nat} {np cpos pos : Pos} {σ : Sg} (H : KOk X) (h : lookN x X.wd.exc = some C) (hl : σ.sc.names.lookup x = some .globalImplicit) : SStm X (.Raise (some (.Call (.Name x np) [] [] cpos)) none pos) σ (.exc C) σ := by
  refine ⟨rfl, fun c CC nw s Q E rl _ ke => ?_⟩
  obtain ⟨e1, e2, e3, e4⟩ := H.exc x C h
  have r0 := rl
  obtain ⟨g, m, T, B, D, F, N, nd, hs, l, t⟩ := rl
  have Tr : TopRead X.p X.loose X.mg X.mb g := topRead_of (CC.top.keeps B.stays)
  have Kg : X.K.In g := CC.kin.keeps B.stays
  refine Raise_own0 F Tr.g (own_of_in Kg Tr e1 e2) PySem.F.excBase_Exception CC.hd (fun h' e hm => ke C rfl nw s e h' .refl r0 hm) CC.fn ?_ e4
  show c.cs.names.lookup x = _
  rw [hs.1]; exact hl
theorem noteFrame_first {M : Model} {A : Around} {E : Value → Shared → Prop} {s : Shared} {base h : Heap} {env : Env} {outer : List Env} {L e : Addr} {cls : Value} {args : List Value} {Q : Unit → Shared → Prop}
    (hfr : A.frames = some (env :: outer)) (hf : env.frame = some L) (hkb : base.StaysIn h) (hl : h.FunFrames base (env :: outer)) (hx : Heap.MadeExcOf h s.heap e cls args)
    (hQ : ∀ h' t, Heap.FlyingW base (env :: outer) e cls (.ref t) h' → s.heap.UpToSlots h' → Q () { s with heap := h' }) : wpAny M A (noteFrame (.ref e) env) (fun _ s' => wpAny M A (setFlight (.ref e) none) Q E s') E s := by
  obtain ⟨t, he, htn, ht⟩ := hx.there
  have fresh : ∀ b, h.get? b = none → base.get? b = none := fun b hb => by
    cases hq : base.get? b with
    | none => rfl
    | some o' => have := hkb b o' hq; rw [hb] at this; cases this
  unfold noteFrame
  simp only [hf]
  refine wpAny_bind (wpAny_field he rfl (x := .none) rfl ?_)
  rw [if_neg (by decide)]
  refine wpAny_newEntryW (a0 := .ref t) hfr (hl.of_keeps fun b o hb _ => ⟨o, hx.keeps b o hb, rfl⟩) hf he (fun b o hb => hx.keeps b o (hkb b o hb)) (fresh e hx.new) rfl (Nat.lt_of_sub_pos (Nat.zero_lt_succ _)) rfl fun h' hL => ?_
  obtain ⟨k1, k2, k3, k4⟩ := hL
  exact hQ h' t ⟨k1, fresh e hx.new, k2, k3⟩ k4
theorem SStm.tryOk {x : Str} {b : List Stmt} {np p1 p2 pos : Pos} {σ σ' : Sg} {o : Out} (h : SExs X b σ o σ') (ho : ∀ C, o ≠ .exc C) : SStm X (.Try b [.ExceptHandler (some (.Name x np)) none [.Pass p1] p2] [] [] pos) σ o σ' :=
  ⟨h.1, fun c C nw s Q E rl k _ => wpAny_Try_except (h.2 c C nw s _ _ rl (fun nw1 f s1 e1 r1 hf => by
    cases f with
    | next => exact wpAny_execs_nil (k nw1 _ s1 e1 r1 hf)
    | _ => exact k nw1 _ s1 e1 r1 hf) fun C hC => absurd hC (ho C))⟩
theorem SStm.tryCatch {x : Str} {C : Nat} {b : List Stmt} {np p1 p2 pos : Pos} {σ σ' : Sg} (H : KOk X) (hx : lookN x X.wd.exc = some C) (hl : σ.sc.names.lookup x = some .globalImplicit) (h : SExs X b σ (.exc C) σ') : SStm X (.Try b [.ExceptHandler (some (.Name x np)) none [.Pass p1] p2] [] [] pos) σ .next σ' := by
  refine ⟨h.1, fun c CC nw s Q E rl k _ => ?_⟩
  have hsc : c.cs = σ.sc := by
    obtain ⟨g, m, T, B, D, F, N, nd, hs, l, t⟩ := rl
    exact hs.1
  refine wpAny_Try_except (h.2 c CC nw s _ _ rl (fun nw1 f s1 e1 r1 hf => by cases f <;> exact hf.elim) fun C' hC nw1 s1 e h' e1 r1 hm => ?_)
  obtain rfl : C = C' := by injection hC
  obtain ⟨ex, _, q, hd⟩ := H.exc x C hx
  obtain ⟨g, m, T, B, D, F, N, nd, hs, l, t⟩ := r1
  have K' := B.push (name := c.cn) (a := c.f) (cd := c.ccd) F CC.fn
  have hfr : (c.A₀.deeper c.env).frames = some (c.env :: c.outer) := Around.frames_deeper B.stack
  have hin : ∀ env ∈ (c.env :: c.outer), ∀ b, env.frame = some b → b ∈ (c.env :: c.outer).filterMap (·.frame) := fun env he b hb => List.mem_filterMap.mpr ⟨env, he, hb⟩
  have hst : Heap.StaysIn (hideAll s1.heap ((c.env :: c.outer).filterMap (·.frame))) s1.heap := fun b o q => of_hideAll _ q
  refine noteFrame_first (s := { s1 with heap := h' }) hfr rfl hst (funFrames_hide K'.frames hin) hm fun h₅ t₅ hheld hsm₅ => ?_
  have hBG : ∀ b o, s1.heap.get? b = some o → b ∉ (c.env :: c.outer).filterMap (·.frame) → (hideAll s1.heap ((c.env :: c.outer).filterMap (·.frame))).get? b = some o := fun b o q nm => hideAll_get _ q nm
  have up₀ : s1.heap.UpToSlots h₅ := (Heap.UpToSlots.of_keeps hm.keeps).trans hsm₅
  obtain ⟨g₅, T₅, F₅, K₅⟩ := kts_ground B F hBG hheld.1 up₀
  have X₅ : X.K.In g₅ := CC.kin.keeps K₅.stays
  have P₅ : TopRead X.p X.loose X.mg X.mb g₅ := topRead_of (CC.top.keeps K₅.stays)
  obtain ⟨ob, hob, hobc⟩ := hheld.there
  obtain ⟨nm, q', N', bs, bm, hdct, sn, sub, ab, col, dd, k0, k1, k2, k3, k5, newId, hC', hbase, hbT⟩ := kts_cls X₅ q
  have hC₅ := F₅.keep _ _ hC'
  refine wpAny_handleBy_cons (codeAny_handlers_test (name_K F₅ X₅ P₅ ex ?_ CC.fn (by show c.cs.names.lookup x = _; rw [hsc]; exact hl) hd)) (by intro q; cases q)
  refine wpAny_excMatches_sub_self hC₅ hob hobc hbase (codeAny_handlers_suite ?_)
  refine lands_againW hheld fun h₆ hfl₆ hsm₆ => ?_
  obtain ⟨g₆, T₆, F₆, K₆⟩ := kts_ground B F hBG hfl₆.1 (up₀.trans hsm₆)
  have D₆ : KtsDicts (c.outer.filterMap (·.frame)) g₆ := D.turn T₆
  have N₆ : News g₆ c.L h₆ nw1 := fun p hp => by
    refine ⟨hfl₆.1 _ _ (hBG _ _ (N p hp).1 fun hmem => ?_), (N p hp).2.1, T₆.none_ _ (N p hp).2.2⟩
    rcases kts_mem hmem with z | z
    · exact (N p hp).2.1 z
    · obtain ⟨o, ho, _⟩ := (B.frames.mem z).2
      rw [(N p hp).2.2] at ho; cases ho
  exact wpAny_execs_cons (wpAny_Pass (wpAny_execs_nil (k nw1 .next _ e1 ⟨g₆, m, T.trans T₆, K₆, D₆, F₆, N₆, nd, hs, l, t⟩ trivial)))
end Mine
end
section
set_option autoImplicit false
set_option maxRecDepth 100000
set_option linter.all false
namespace Mine
open PySem PySem.W PySem.Calls PyProof.Rows
variable {X : Fx}

/-! a function's call -/
noncomputable def KFn (X : Fx) (a : Nat) (F : Fn) : Prop := ∃ name qual params dV kV doc pm an cdv ct oc od osl, X.K.lookup a = some ⟨oc, od, .func (fnOf name qual params F.body F.scope dV kV doc pm an cdv ct), osl⟩ ∧ codeIn X.K cdv qual = true ∧
  (∀ ys : List Value, ys.length = F.ps.length → bindArgs (fnOf name qual params F.body F.scope dV kV doc pm an cdv ct) ⟨ys, []⟩ = pure (F.ps.zip ys)) ∧
  F.scope.kind = .function ∧ F.scope.isCoroutine = false ∧ F.scope.isGenerator = false ∧ (∀ x ∈ F.scope.names, x.2 ≠ .cell) ∧ (∀ p ∈ F.ps, F.scope.names.lookup p = some .local) ∧ F.ps.Nodup
theorem lookV_locs0 {sc : Scope} {x : Str} {v : V} : lookV x (locs0 sc) ≠ some v := by
  unfold locs0
  generalize sc.names = l
  induction l with
  | nil => intro h; cases h
  | cons p r ih =>
    intro h
    rw [List.filterMap_cons] at h
    split at h
    · exact ih h
    · rename_i q hq
      have : q.2 = .undef := by
        split at hq
        · cases hq; rfl
        · cases hq
      obtain ⟨q1, q2⟩ := q
      dsimp only at this
      subst this
      unfold lookV at h
      cases hx : (x == q1) with
      | true => rw [hx] at h; cases h
      | false => rw [hx] at h; exact ih h
theorem putP_spec {nw : List (Addr × Obj)} : ∀ {ps : List Str} {vs : List V} {ys : List Value} {l0 l : List (Str × V)}, putP ps vs l0 = some l → VRs X nw vs ys → ps.Nodup → ps.length = ys.length ∧ ∀ x v, lookV x l = some v → (∃ y, (ps.zip ys).reverse.lookup x = some y ∧ VR X nw v y) ∨ (lookV x l0 = some v ∧ x ∉ ps)
  | [], [], _, l0, l, h, .nil, _ => by
    cases h
    exact ⟨rfl, fun x v hx => .inr ⟨hx, by simp⟩⟩
  | x0 :: xs, v0 :: vs, _, l0, l, h, .cons _ y0 _ ys h1 h2, nd => by
    unfold putP at h
    cases q : putV x0 v0 l0 with
    | none => rw [q] at h; cases h
    | some l1 =>
      rw [q] at h
      obtain ⟨n1, n2⟩ := List.nodup_cons.mp nd
      obtain ⟨e, key⟩ := putP_spec h h2 n2
      refine ⟨congrArg (· + 1) e, fun x v hx => ?_⟩
      have er : ((x0 :: xs).zip (y0 :: ys)).reverse = (xs.zip ys).reverse ++ [(x0, y0)] := by
        rw [List.zip_cons_cons, List.reverse_cons]
      rw [er, List.lookup_append]
      rcases key x v hx with ⟨y, a, b⟩ | ⟨a, b⟩
      · exact .inl ⟨y, by rw [a]; rfl, b⟩
      · rcases lookV_put q x v a with ⟨rfl, rfl⟩ | ⟨c, d⟩
        · refine .inl ⟨y0, ?_, h1⟩
          have : (xs.zip ys).reverse.lookup x = none := by
            rw [List.lookup_eq_none_iff]
            intro p hp
            rw [List.mem_reverse] at hp
            have := (List.of_mem_zip (a := p.1) (b := p.2) hp).1
            exact bne_iff_ne.mpr fun (e : x = p.1) => b (e ▸ this)
          rw [this]
          simp
        · exact .inr ⟨d, fun hm => by
            rcases List.mem_cons.mp hm with q | q
            · exact c q
            · exact b q⟩
  | [], _ :: _, _, _, _, h, _, _ => by cases h
  | _ :: _, [], _, _, _, h, _, _ => by cases h
theorem SCall.fn {a : Nat} {F : Fn} {args : List V} {l : List (Str × V)} {d : Nat} {t₀ : Tel} {o : Out} {σ' : Sg} {v : V} (HF : KFn X a F) (hp : putP F.ps args (locs0 F.scope) = some l) (h : SExs X F.body ⟨F.scope, d, l, t₀⟩ o σ') (ho : (o = .next ∧ v = .none) ∨ o = .ret v) : SCall X a args (d + 1) t₀ v σ'.tel := by
  intro c C σ hd ht nw s ys Q E rl va kk
  subst ht
  obtain ⟨name, qual, params, dV, kV, doc, pm, an, cdv, ct, oc, od, osl, k1, k2, k3, k4, k5, k6, k7, k8, k9⟩ := HF
  obtain ⟨e1, e2⟩ := putP_spec hp va k9
  obtain ⟨g, m, T, B, D, Fr₀, N, nd, hs, lr, tr⟩ := rl
  have Kg : X.K.In g := C.kin.keeps B.stays
  have Tg : Top X.p X.loose X.mean X.mg X.mb g := C.top.keeps B.stays
  have dep := C.dep
  have un := C.un
  refine wpAny_call (code_defS (g₀ := c.g₀) (A₀ := c.A₀) (base := c.base) (outer := c.outer) (cn := c.cn) (cs := c.cs) (a := c.f) (ccd := c.ccd) B Fr₀ Kg N Tg C.kin C.top D T (Around.frames_deeper B.stack) k1 k2 (by omega) (BindsTo.of_eq (k3 ys e1.symm)) (fun y hy => k8 _ (List.of_mem_zip (a := y.1) (b := y.2) hy).1)
    (fun g' L' h₁ F1 F2 N2 B2 K2 T2 D2 => ?_) C.fn k5 k6 k4 k7)
  have C' : CxOk X ⟨c.A, c.base, c.env :: c.outer, L', a, qual, F.scope, cdv, g', c.os⟩ d :=
    ⟨C.kin, C.top, C.hc, k4, C.hd, by show (c.A.depth + 1) + d < _; omega, by show (c.A.units + 3) + 8 * d + 8 < _; omega⟩
  refine h.2 ⟨c.A, c.base, c.env :: c.outer, L', a, qual, F.scope, cdv, g', c.os⟩ C' nw _ _ _ ⟨g', _, .refl, B2, D2, F2, N2, nd, ⟨rfl, hs.2⟩, fun x u hx => ?_, tr⟩ (fun nw' f s' ex r' hf => ?_) fun C hC => ?_
  · rcases e2 x u hx with q | q
    · exact q
    · exact absurd q.1 lookV_locs0
  · obtain ⟨g2, m2, T', B', D', F', N', nd', hs', l', t'⟩ := r'
    have key : ∀ y, VR X nw' v y → LeaveS ((c.env :: c.outer).filterMap (·.frame)) c.A₀ c.base c.outer X.K X.p X.loose X.mean X.mg X.mb c.g₀ g c.L m g' (fun r s' => match r with | .ok (.ret v) => Q v s' | .ok _ => False | .error e => E e s') y s' := fun y hy =>
      leaveS_r F' N' T' fun h₀' Tn Fn Nn Bn Kn Topn Dn => kk nw' y s' ex ⟨h₀', m, Tn, Bn, Dn, Fn, Nn, nd', ⟨hs.1, hs'.2⟩, lr.mono ex, t'⟩ hy
    rcases ho with ⟨rfl, rfl⟩ | rfl
    · cases f <;> first | exact hf.elim | exact key _ .none
    · cases f <;> first | exact hf.elim | exact key _ hf
  · rcases ho with ⟨rfl, rfl⟩ | rfl <;> cases hC
end Mine
end
section
set_option autoImplicit false
set_option maxRecDepth 100000
set_option linter.all false
namespace Mine
open PySem PySem.W PySem.Calls PyProof.Rows
variable {X : Fx}

theorem compOk_facts {sc : Scope} {y : Str} {py lp : Pos} {scope : Scope} {g x x1 : Str} (h : compOk sc y py lp scope g x x1 = true) :
    sc.names.lookup y = some .local ∧ (py.line == lp.line) = true ∧ (!(scope.names.any fun (n, k) => n == y && (k == .local || k == .cell))) = true ∧ scope.kind = .function ∧
    (∀ z ∈ scope.names, z.2 ≠ .free) ∧ (∀ z ∈ scope.names, z.2 ≠ .cell) ∧ (∀ z ∈ scope.names, z.2 = .local → scope.names.lookup z.1 = some .local) ∧ scope.names.lookup x = some .local ∧ scope.names.lookup g = some .globalImplicit ∧
    x1 = x ∧ (x1 == ("__debug__" : Str)) = false ∧ (g == ("__debug__" : Str)) = false := by
  unfold compOk at h
  simp only [Bool.and_eq_true, Bool.not_eq_true'] at h
  obtain ⟨⟨⟨⟨⟨⟨⟨⟨⟨h1, h2⟩, h3⟩, h4⟩, h5⟩, h6⟩, h7⟩, h8⟩, h9⟩, h10⟩ := h
  have h5' := List.all_eq_true.mp h5
  refine ⟨beq_iff_eq.mp h1, h2, by rw [h3]; rfl, ?_, fun z hz e => ?_, fun z hz e => ?_, fun z hz e => ?_, beq_iff_eq.mp h6, beq_iff_eq.mp h7, eq_of_beq h8, h9, h10⟩
  · cases q : scope.kind <;> rw [q] at h4 <;> first | rfl | cases h4
  · have := h5' z hz
    rw [e] at this
    cases this
  · have := h5' z hz
    rw [e] at this
    cases this
  · have := h5' z hz
    rw [e] at this
    simp only [Bool.and_eq_true, Bool.or_eq_true] at this
    rcases this.2 with q | q
    · cases q
    · exact beq_iff_eq.mp q
/-- what a drawn item is -/
noncomputable def FF (X : Fx) (tbl : List V) (m : Int) (v y : Value) : Prop := ∃ i t u, v = .int i t ∧ nthV tbl (i % m).toNat = some u ∧ VR X [] u y
theorem pick_items {nw : List (Addr × Obj)} {tbl : List V} {m : Int} : ∀ {vs : List V} {ys : List Value} {us : List V}, VRs X nw vs ys → pickAll tbl m vs = some us → ∀ v ∈ ys, ∃ i t u, v = .int i t ∧ nthV tbl (i % m).toNat = some u
  | [], _, _, .nil, _, v, hv => by cases hv
  | w :: vs, _, us, .cons _ y _ ys h1 h2, hp, v, hv => by
    cases w with
    | int i =>
      unfold pickAll at hp
      cases q : nthV tbl (i % m).toNat with
      | none => rw [q] at hp; cases hp
      | some u =>
        rw [q] at hp
        cases q2 : pickAll tbl m vs with
        | none => rw [q2] at hp; cases hp
        | some l =>
          rcases List.mem_cons.mp hv with e | hv
          · cases h1 with
            | int _ t => exact ⟨i, t, u, e, q⟩
          · exact pick_items h2 q2 v hv
    | _ => simp [pickAll] at hp
theorem pick_rel {nw nw' : List (Addr × Obj)} {tbl : List V} {m : Int} : ∀ {vs : List V} {ys zs : List Value} {us : List V}, VRs X nw vs ys → pickAll tbl m vs = some us → Paired (FF X tbl m) ys zs → VRs X nw' us zs
  | [], _, _, us, .nil, hp, .nil => by cases hp; exact .nil
  | w :: vs, _, _, us, .cons _ y _ ys h1 h2, hp, .cons hf hr => by
    cases w with
    | int i =>
      unfold pickAll at hp
      cases q : nthV tbl (i % m).toNat with
      | none => rw [q] at hp; cases hp
      | some u =>
        rw [q] at hp
        cases q2 : pickAll tbl m vs with
        | none => rw [q2] at hp; cases hp
        | some l =>
          rw [q2] at hp
          cases hp
          obtain ⟨i', t', u', e1, e2, e3⟩ := hf
          cases h1
          cases e1
          rw [q] at e2
          cases e2
          exact .cons _ _ _ _ (e3.mono fun p hp => by cases hp) (pick_rel h2 q2 hr)
    | _ => simp [pickAll] at hp
theorem SStm.comp {y g x x1 : Str} {gp p1 cp bp sp px py lp pos : Pos} {kk : Nat} {m : Int} {iter : Expr} {scope : Scope} {σ σ' : Sg} {tbl vs us : List V} {t : Tel} (H : KOk X) (hc : compOk σ.sc y py lp scope g x x1 = true) (hm : 0 < m) (hg : lookD g X.wd.glob = some (.lst tbl))
    (hit : plainV iter = true) (h1 : SEv X iter σ (.lst vs) t) (hp : pickAll tbl m vs = some us) (hlen : Nat.ble us.length 1000 = true) (hs : ({ σ with tel := t } : Sg).put y (.lst us) = some σ') :
    SStm X (.Assign [.Name y py] (.ListComp (.Subscript (.Name g gp) (.BinOp (.Name x1 p1) .Mod (.Constant (.int m) kk cp) bp) sp) [⟨.Name x px, iter, [], 0⟩] scope lp) pos) σ .next σ' := by
  obtain ⟨f1, f2, f3, f4, f5, f6, f7, f8, f9, f10, f11, f12⟩ := compOk_facts hc
  subst f10
  obtain ⟨_, l', hl', rfl⟩ := put_spec hs
  refine ⟨rfl, fun c C nw s Q E rl k _ => ?_⟩
  have hsc : c.cs = σ.sc := by
    obtain ⟨_, _, _, _, _, _, _, _, q, _⟩ := rl
    exact q.1
  have hbk : c.env.blockKind = .function := by
    show (if c.cs.kind.isAnnotationScope then ScopeKind.function else c.cs.kind) = _
    rw [C.fn]; rfl
  have hky : c.env.kindOf y = some .local := by
    show c.cs.names.lookup y = _
    rw [hsc]; exact f1
  refine wpAny_Assign_ListComp_map (p := fun _ => true) (FF X tbl m) ?_ C.hd f5 f6 f4 f7 f8 hky ?_ (h1 c C nw s _ E rl fun nw1 y1 s1 e1 r1 v1 => ?_) (fun z => by cases iter <;> first | rfl | cases hit)
  · show (pure (c.env.blockKind == .function && c.env.kindOf y == some .local && py.line == lp.line && !(scope.names.any fun (n, k) => n == y && (k == .local || k == .cell))) : Sem Bool) = pure true
    rw [hbk, hky, f2, f3]; rfl
  · show ((c.cs.kind == .class || (c.cs.kind == .module && _)) = false)
    rw [C.fn]; rfl
  obtain ⟨ax, o, items, n, rfl, g1, g2, g3, g4, g5⟩ := v1.lst_inv
  have hI : s1.heap.IsList ax items := Rel.isList (σ := { σ with tel := t }) C r1 g1 g2 g3
  have hne : ∀ D, s1.heap.get? D = none → D ≠ X.D := fun D hD e => by
    obtain ⟨g, m', T, B, Dd, F, N, nd, hs1, l1, ks, es, n', _, _, _, _, hDD, _⟩ := r1
    rw [e, (N _ hDD).1] at hD
    cases hD
  obtain ⟨gh, m', T, B, Dd, F, N, nd, hs1, l1, tt⟩ := r1
  have Kg : X.K.In gh := C.kin.keeps B.stays
  have Tr : TopRead X.p X.loose X.mg X.mb gh := topRead_of (C.top.keeps B.stays)
  obtain ⟨yt, hyt, hvt⟩ := H.glob g (.lst tbl) hg
  obtain ⟨at_, ot, it, nt, rfl, q1, q2, q3, q4, q5⟩ := (hvt []).lst_inv
  have hot : gh.get? at_ = some ot := by
    rcases q1 with q1 | q1
    · cases q1.1
    · exact B.stays _ _ (C.hc _ _ q1)
  have hlv : vs.length = items.size := by rw [g4.length]; rfl
  refine ⟨ax, items, m', rfl, hI, by rw [sizeLine_eq]; omega, F.ns, fun Cc v s2 m2 E' hv hns hm2 hk2 => ?_, fun Cc v s2 m2 E' hv _ hns hm2 hk2 => ?_, fun D h' tk ys hD hDl hP hns hk2 => ?_⟩
  · exact wpAny_pure ⟨rfl, s2.heap, s2.toks, rfl, fun _ _ e => e⟩
  · obtain ⟨i, ti, u, rfl, hn⟩ := pick_items g4 hp v (by simpa using hv)
    obtain ⟨hlt, yy, hyy, hvy⟩ := nth_vr q4 hn
    have hgl : s2.heap.Ns mainGlobals X.mg := (Tr.g.keeps F.keep).keeps hk2
    have hIt : s2.heap.IsList at_ it := ⟨ot, hk2 _ _ (F.keep _ _ hot), q2, nt, q3⟩
    have hmod : 0 ≤ i % m := Int.emod_nonneg _ (by omega)
    refine Subscript_ (Calls.Name_function_global f4 f9 (Calls.loadGlobal_global (env := compEnv scope Cc c.env) hgl (mg_of Kg Tr.g hyt) ?_) f12)
    refine wpAny_BinOp (wpAny_Name (wpAny_loadName_local (m := m2) f4 f8 hns hm2 ?_) f11)
    refine wpAny_Constant_int ?_
    refine mod_int (by omega) ?_
    have e : i.fmod m = i % m := Int.fmod_eq_emod_of_nonneg i (by omega)
    rw [e]
    have hyy' : it[(i % m).toNat]? = some yy := by simpa using hyy
    refine item_list (items := it) ⟨ot, hk2 _ _ (F.keep _ _ hot), q2, nt, q3⟩ hmod ?_ hyy' ⟨⟨i, ti, u, rfl, hn, hvy⟩, _, _, rfl, fun _ _ e => e⟩ rfl (fun r => rfl)
    have := q4.length
    omega
  · have hfil : items.toList.filter (fun _ => true) = items.toList := List.filter_eq_self.mpr fun _ _ => rfl
    rw [hfil] at hP
    obtain ⟨od, hod, hcd, nd', hdd⟩ := hDl
    have hLr : Fr gh c.L h' (fun z => if z = y then some (.ref D) else m' z) := by
      refine ⟨hns, fun b ob hb => ?_, F.above⟩
      refine hk2 b ob (fun e => ?_) (F.keep b ob hb)
      have e' : b = c.L := e
      have hb' : gh.get? c.L = some ob := by rw [← e']; exact hb
      rw [kts_self F] at hb'
      cases hb'
    have hgD : gh.get? D = none := by
      cases q : gh.get? D with
      | none => rfl
      | some o' => rw [F.keep _ _ q] at hD; cases hD
    have hDL : D ≠ c.L := fun e => by
      obtain ⟨oL, _, _, hL, _⟩ := F.ns
      rw [e, hL] at hD; cases hD
    have N' : News gh c.L h' ((D, od) :: nw1) := fun p hp => by
      rcases List.mem_cons.mp hp with rfl | hp
      · exact ⟨hod, hDL, hgD⟩
      · exact ⟨hk2 _ _ (N p hp).2.1 (N p hp).1, (N p hp).2⟩
    have hnd : ∀ p ∈ nw1, p.1 ≠ D := fun p hp e => by
      rw [← e, (N p hp).1] at hD; cases hD
    have hv : VR X ((D, od) :: nw1) (.lst us) (.ref D) := .lst us D od ys nd' (.inl ⟨.head _, hne D hD⟩) hcd hdd (pick_rel g4 hp hP) (Nat.le_of_ble_eq_true hlen)
    refine k _ _ _ (e1.trans .cons) ⟨gh, _, T, B, Dd, hLr, N', ?_, hs1, fun z w hz => ?_, tt.mono fun p hp => List.mem_cons_of_mem _ hp⟩ trivial
    · rw [List.map_cons, List.nodup_cons]
      exact ⟨fun h => by
        obtain ⟨p, hp, e⟩ := List.mem_map.mp h
        exact hnd p hp e, nd⟩
    · rcases lookV_put hl' z w hz with ⟨rfl, rfl⟩ | ⟨hzy, hq⟩
      · exact ⟨_, if_pos rfl, hv⟩
      · obtain ⟨y', a, b⟩ := l1 z w hq
        exact ⟨y', (if_neg hzy).trans a, b.mono .cons⟩
end Mine
end
section
set_option autoImplicit false
set_option maxRecDepth 100000
set_option linter.all false
namespace Mine
open PySem PySem.W PySem.Calls PyProof.Rows
variable {X : Fx}

noncomputable def okE (e : Expr) : Bool := plainV e && !isStarE e && noSlice e
theorem okE_facts {e : Expr} (h : okE e = true) : plainV e = true ∧ isStarE e = false ∧ noSlice e = true := by
  unfold okE at h
  simp only [Bool.and_eq_true, Bool.not_eq_true'] at h
  exact ⟨h.1.1, h.1.2, h.2⟩
noncomputable def SumsOk (X : Fx) : Prop := ∀ a S, X.wd.sums a = some S → ∀ (R : Type) (args : List V) (t : Tel) (k : V → Tel → Option R) (r : R), S.f args t k = some r → ∃ v t', k v t' = some r ∧ ∀ d, S.dep ≤ d → SCall X a args d t v t'
structure AllOk (X : Fx) : Prop where
  k : KOk X
  sets : SetsOk X
  dicts : DictsOk X
  fn : ∀ a F, X.wd.fn a = some F → KFn X a F
  sums : SumsOk X
noncomputable def Sound (X : Fx) {R : Type} (T : Task R) (r : R) : Prop := match T with
  | .ev e σ k => ∃ v t, k v { σ with tel := t } = some r ∧ SEv X e σ v t ∧ okE e = true
  | .evs es σ k => ∃ vs t, k vs { σ with tel := t } = some r ∧ SEvs X es σ vs t ∧ vs.length = es.length
  | .opt e σ k => ∃ i t, k i { σ with tel := t } = some r ∧ SOpt X e σ i t
  | .tst e σ k => ∃ b t, k b { σ with tel := t } = some r ∧ STst X e σ b t
  | .tsts op es σ k => ∃ b t, k b { σ with tel := t } = some r ∧ STsts X op es σ b t
  | .exs l σ k => ∃ o σ', k.at o σ' = some r ∧ SExs X l σ o σ'
  | .whl t b σ k => (∀ c σ, k.exc c σ = none) → ∃ o σ', k.at o σ' = some r ∧ SLoop X (fun env => .whileLoop t b [] env) σ o σ'
  | .fors t items b σ k => (∀ c σ, k.exc c σ = none) → ∃ o σ', k.at o σ' = some r ∧ SFor X t items b σ o σ'
  | .call a args σ k => ∃ v t, k v { σ with tel := t } = some r ∧ SCall X a args σ.d σ.tel v t ∧ isFun X.wd a = true

section
variable {R : Type} {n : Nat} {r : R} (H : AllOk X) (ih : ∀ (T : Task R) (r : R), run X.wd n T = some r → Sound X T r)
include H ih
theorem sound_ev {e : Expr} {σ : Sg} {k : V → Sg → Option R} (h : run X.wd (n + 1) (.ev e σ k) = some r) : Sound X (.ev e σ k) r := by
  have iev : ∀ {e : Expr} {σ : Sg} {k : V → Sg → Option R}, run X.wd n (.ev e σ k) = some r → ∃ v t, k v { σ with tel := t } = some r ∧ SEv X e σ v t ∧ okE e = true := fun h => ih _ _ h
  have ievs : ∀ {es : List Expr} {σ : Sg} {k : List V → Sg → Option R}, run X.wd n (.evs es σ k) = some r → ∃ vs t, k vs { σ with tel := t } = some r ∧ SEvs X es σ vs t ∧ vs.length = es.length := fun h => ih _ _ h
  have iopt : ∀ {e : Option Expr} {σ : Sg} {k : Option Int → Sg → Option R}, run X.wd n (.opt e σ k) = some r → ∃ i t, k i { σ with tel := t } = some r ∧ SOpt X e σ i t := fun h => ih _ _ h
  have itst : ∀ {e : Expr} {σ : Sg} {k : Bool → Sg → Option R}, run X.wd n (.tst e σ k) = some r → ∃ b t, k b { σ with tel := t } = some r ∧ STst X e σ b t := fun h => ih _ _ h
  have icall : ∀ {a : Nat} {args : List V} {σ : Sg} {k : V → Sg → Option R}, run X.wd n (.call a args σ k) = some r → ∃ v t, k v { σ with tel := t } = some r ∧ SCall X a args σ.d σ.tel v t ∧ isFun X.wd a = true := fun h => ih _ _ h
  replace h : evF X.wd (run X.wd n) (exK e) σ k = some r := h
  show ∃ v t, k v { σ with tel := t } = some r ∧ SEv X e σ v t ∧ okE e = true
  generalize exK e = ek at h
  cases ek with
  | cst c i p =>
    rw [evF.eq_1] at h
    split at h
    · rename_i v hv
      exact ⟨v, σ.tel, h, SEv.const hv, rfl⟩
    · cases h
  | name x p =>
    rw [evF.eq_2] at h
    split at h
    · rename_i v hv
      exact ⟨v, σ.tel, h, SEv.name H.k hv, rfl⟩
    · cases h
  | attr o q a p =>
    rw [evF.eq_3] at h
    split at h
    · rename_i ho
      split at h
      · rename_i v hv
        exact ⟨v, σ.tel, h, SEv.field H.k ho hv, rfl⟩
      · cases h
    · rename_i ho
      split at h
      · rename_i v hv
        exact ⟨v, σ.tel, h, SEv.among H.k ho hv, rfl⟩
      · cases h
    · rename_i c ho
      split at h
      · rename_i hc
        obtain rfl := eq_of_beq hc
        split at h
        · rename_i v hv
          exact ⟨v, σ.tel, h, SEv.clsAttr H.k ho hv, rfl⟩
        · cases h
      · cases h
    · cases h
  | bin l op rr p =>
    rw [evF.eq_4] at h
    obtain ⟨a, t1, h, s1, _⟩ := iev h
    obtain ⟨b, t2, h, s2, _⟩ := iev h
    obtain ⟨v, h, s3⟩ := binV_ok h
    exact ⟨v, t2, h, SEv.bin s1 s2 s3, rfl⟩
  | neg x p =>
    rw [evF.eq_5] at h
    obtain ⟨a, t1, h, s1, _⟩ := iev h
    split at h
    · exact ⟨_, t1, h, SEv.neg s1, rfl⟩
    · cases h
  | cmp l op rr p =>
    rw [evF.eq_6] at h
    split at h
    · rename_i hn
      obtain ⟨a, t1, h, s1, _⟩ := iev h
      obtain ⟨b, t2, h, s2, _⟩ := iev h
      split at h
      · rename_i c hc
        exact ⟨_, t2, h, SEv.cmp hn s1 s2 (cmpV_ok H.sets hc), rfl⟩
      · cases h
    · cases h
  | ife t b o p =>
    rw [evF.eq_7] at h
    obtain ⟨c, t1, h, s1⟩ := itst h
    split at h
    · obtain ⟨v, t2, h, s2, _⟩ := iev h
      exact ⟨v, t2, h, SEv.ifexp s1 s2, rfl⟩
    · obtain ⟨v, t2, h, s2, _⟩ := iev h
      exact ⟨v, t2, h, SEv.ifexp s1 s2, rfl⟩
  | tup es i p =>
    rw [evF.eq_8] at h
    split at h
    · rename_i ha
      obtain ⟨vs, t, h, s1, hl⟩ := ievs h
      exact ⟨_, t, h, SEv.tuple (Nat.lt_trans (argsOk_facts ha).1 (by decide)) hl s1, rfl⟩
    · cases h
  | lst es p =>
    rw [evF.eq_9] at h
    split at h
    · rename_i ha
      obtain ⟨vs, t, h, s1, hl⟩ := ievs h
      exact ⟨_, t, h, SEv.list (Nat.lt_trans (argsOk_facts ha).1 (by decide)) hl s1, rfl⟩
    · cases h
  | slc a l u q p =>
    rw [evF.eq_10] at h
    obtain ⟨v, t1, h, s1, _⟩ := iev h
    obtain ⟨i, t2, h, s2⟩ := iopt h
    obtain ⟨j, t3, h, s3⟩ := iopt h
    split at h
    · exact ⟨_, t3, h, SEv.slice s1 s2 s3, rfl⟩
    · split at h
      · rename_i hn hl
        exact ⟨_, t3, h, SEv.sliceL hn hl s1 s2 s3, rfl⟩
      · cases h
    · cases h
  | sub a i p =>
    rw [evF.eq_11] at h
    obtain ⟨v, t1, h, s1, _⟩ := iev h
    obtain ⟨j, t2, h, s2, ok⟩ := iev h
    have ns := (okE_facts ok).2.2
    split at h
    · split at h
      · rename_i l hn hl
        split at h
        · rename_i w hw
          exact ⟨w, t2, h, SEv.dict H.dicts ns s1 s2 hl hw, rfl⟩
        · cases h
      · cases h
    · split at h
      · rename_i hn
        obtain ⟨w, h, s3⟩ := itemV_ok (X := X) (a := .lst _) hn h
        exact ⟨w, t2, h, SEv.item ns s1 s2 s3, rfl⟩
      · cases h
    · obtain ⟨w, h, s3⟩ := itemV_ok rfl h
      exact ⟨w, t2, h, SEv.item ns s1 s2 s3, rfl⟩
    · obtain ⟨w, h, s3⟩ := itemV_ok rfl h
      exact ⟨w, t2, h, SEv.item ns s1 s2 s3, rfl⟩
    · cases h
  | meth o name apos e₁ args pos =>
    rw [evF.eq_12] at h
    split at h
    · rename_i hc
      simp only [Bool.and_eq_true] at hc
      obtain ⟨⟨ha, ho⟩, hl⟩ := hc
      obtain ⟨v, t1, h, s1, _⟩ := iev h
      split at h
      · split at h
        · rename_i a hm
          obtain ⟨vs, t2, h, s2, _⟩ := ievs h
          obtain ⟨w, t3, h, s3, hf⟩ := icall h
          exact ⟨w, t3, h, SEv.meth H.k ho hl ha s1 hm hf s2 s3, rfl⟩
        · cases h
      · obtain ⟨vs, t2, h, s2, _⟩ := ievs h
        split at h
        · rename_i w hw
          exact ⟨w, t2, h, SEv.strM ho hl ha s1 s2 hw, rfl⟩
        · cases h
      · cases h
    · cases h
  | meth0 o name apos pos =>
    rw [evF.eq_13] at h
    split at h
    · rename_i hc
      simp only [Bool.and_eq_true] at hc
      obtain ⟨ho, hl⟩ := hc
      obtain ⟨v, t1, h, s1, _⟩ := iev h
      split at h
      · split at h
        · rename_i a hm
          obtain ⟨w, t3, h, s3, hf⟩ := icall h
          exact ⟨w, t3, h, SEv.meth0 H.k ho hl s1 hm hf s3, rfl⟩
        · cases h
      · cases h
    · cases h
  | call f q e₁ args pos =>
    rw [evF.eq_14] at h
    split at h
    · rename_i a ha hf
      obtain ⟨vs, t2, h, s2, _⟩ := ievs h
      obtain ⟨w, t3, h, s3, hk⟩ := icall h
      exact ⟨w, t3, h, SEv.callF H.k ha hf hk s2 s3, rfl⟩
    · rename_i a ha hf
      obtain ⟨vs, t2, h, s2, _⟩ := ievs h
      obtain ⟨w, h, s3⟩ := biV_ok (X := X) h
      exact ⟨w, t2, h, SEv.callB H.k ha hf s2 s3, rfl⟩
    · rename_i a ha hf
      obtain ⟨vs, t2, h, s2, _⟩ := ievs h
      obtain ⟨w, h, s3⟩ := tyV_ok (X := X) h
      exact ⟨w, t2, h, SEv.callT H.k ha hf s2 s3, rfl⟩
    · cases h
  | call0 f q pos =>
    rw [evF.eq_15] at h
    split at h
    · rename_i a hf
      obtain ⟨w, t3, h, s3, hk⟩ := icall h
      exact ⟨w, t3, h, SEv.callF0 H.k hf hk s3, rfl⟩
    · cases h
  | other e =>
    rw [evF.eq_16] at h
    cases h
theorem sound_tst {e : Expr} {σ : Sg} {k : Bool → Sg → Option R} (h : run X.wd (n + 1) (.tst e σ k) = some r) : Sound X (.tst e σ k) r := by
  have iev : ∀ {e : Expr} {σ : Sg} {k : V → Sg → Option R}, run X.wd n (.ev e σ k) = some r → ∃ v t, k v { σ with tel := t } = some r ∧ SEv X e σ v t ∧ okE e = true := fun h => ih _ _ h
  have itst : ∀ {e : Expr} {σ : Sg} {k : Bool → Sg → Option R}, run X.wd n (.tst e σ k) = some r → ∃ b t, k b { σ with tel := t } = some r ∧ STst X e σ b t := fun h => ih _ _ h
  have itsts : ∀ {op : BoolOp} {es : List Expr} {σ : Sg} {k : Bool → Sg → Option R}, run X.wd n (.tsts op es σ k) = some r → ∃ b t, k b { σ with tel := t } = some r ∧ STsts X op es σ b t := fun h => ih _ _ h
  replace h : tstF X.wd (run X.wd n) (tsK e) σ k = some r := h
  show ∃ b t, k b { σ with tel := t } = some r ∧ STst X e σ b t
  generalize tsK e = ek at h
  cases ek with
  | not x p =>
    rw [tstF.eq_1] at h
    obtain ⟨b, t, h, s1⟩ := itst h
    exact ⟨_, t, h, STst.not s1⟩
  | bools op vs p =>
    rw [tstF.eq_2] at h
    obtain ⟨b, t, h, s1⟩ := itsts h
    exact ⟨_, t, h, STst.bools s1⟩
  | cmp l op rr p =>
    rw [tstF.eq_3] at h
    split at h
    · rename_i hn
      obtain ⟨a, t1, h, s1, _⟩ := iev h
      obtain ⟨b, t2, h, s2, _⟩ := iev h
      split at h
      · rename_i c hc
        exact ⟨_, t2, h, STst.cmp hn s1 s2 (cmpV_ok H.sets hc)⟩
      · cases h
    · cases h
  | name x p =>
    rw [tstF.eq_4] at h
    obtain ⟨v, t, h, s1, _⟩ := iev h
    split at h
    · exact ⟨_, t, h, STst.plain rfl s1⟩
    · cases h
  | cst c i p =>
    rw [tstF.eq_5] at h
    obtain ⟨v, t, h, s1, _⟩ := iev h
    split at h
    · exact ⟨_, t, h, STst.plain rfl s1⟩
    · cases h
  | call f as ks p =>
    rw [tstF.eq_6] at h
    obtain ⟨v, t, h, s1, _⟩ := iev h
    split at h
    · exact ⟨_, t, h, STst.plain rfl s1⟩
    · cases h
  | other e =>
    rw [tstF.eq_7] at h
    cases h
theorem sound_tsts {op : BoolOp} {es : List Expr} {σ : Sg} {k : Bool → Sg → Option R} (h : run X.wd (n + 1) (.tsts op es σ k) = some r) : Sound X (.tsts op es σ k) r := by
  have itst : ∀ {e : Expr} {σ : Sg} {k : Bool → Sg → Option R}, run X.wd n (.tst e σ k) = some r → ∃ b t, k b { σ with tel := t } = some r ∧ STst X e σ b t := fun h => ih _ _ h
  have itsts : ∀ {op : BoolOp} {es : List Expr} {σ : Sg} {k : Bool → Sg → Option R}, run X.wd n (.tsts op es σ k) = some r → ∃ b t, k b { σ with tel := t } = some r ∧ STsts X op es σ b t := fun h => ih _ _ h
  replace h : tstsF (run X.wd n) op es σ k = some r := h
  show ∃ b t, k b { σ with tel := t } = some r ∧ STsts X op es σ b t
  cases es with
  | nil => cases h
  | cons e es =>
    cases es with
    | nil =>
      obtain ⟨b, t, h, s1⟩ := itst h
      exact ⟨_, t, h, STsts.one s1⟩
    | cons e' es =>
      obtain ⟨b, t, h, s1⟩ := itst h
      cases op with
      | And => cases b with
        | true =>
          obtain ⟨b2, t2, h, s2⟩ := itsts h
          exact ⟨_, t2, h, STsts.go s1 (.inl ⟨rfl, rfl⟩) s2⟩
        | false => exact ⟨_, t, h, STsts.stop s1 (.inl ⟨rfl, rfl⟩)⟩
      | Or => cases b with
        | true => exact ⟨_, t, h, STsts.stop s1 (.inr ⟨rfl, rfl⟩)⟩
        | false =>
          obtain ⟨b2, t2, h, s2⟩ := itsts h
          exact ⟨_, t2, h, STsts.go s1 (.inr ⟨rfl, rfl⟩) s2⟩
theorem sound_evs {es : List Expr} {σ : Sg} {k : List V → Sg → Option R} (h : run X.wd (n + 1) (.evs es σ k) = some r) : Sound X (.evs es σ k) r := by
  have iev : ∀ {e : Expr} {σ : Sg} {k : V → Sg → Option R}, run X.wd n (.ev e σ k) = some r → ∃ v t, k v { σ with tel := t } = some r ∧ SEv X e σ v t ∧ okE e = true := fun h => ih _ _ h
  have ievs : ∀ {es : List Expr} {σ : Sg} {k : List V → Sg → Option R}, run X.wd n (.evs es σ k) = some r → ∃ vs t, k vs { σ with tel := t } = some r ∧ SEvs X es σ vs t ∧ vs.length = es.length := fun h => ih _ _ h
  replace h : evsF (run X.wd n) es σ k = some r := h
  show ∃ vs t, k vs { σ with tel := t } = some r ∧ SEvs X es σ vs t ∧ vs.length = es.length
  cases es with
  | nil => exact ⟨_, _, h, SEvs.nil, rfl⟩
  | cons e es =>
    obtain ⟨v, t1, h, s1, ok⟩ := iev h
    obtain ⟨vs, t2, h, s2, hl⟩ := ievs h
    exact ⟨_, t2, h, SEvs.cons (okE_facts ok).2.1 s1 s2, congrArg (· + 1) hl⟩
theorem sound_opt {e : Option Expr} {σ : Sg} {k : Option Int → Sg → Option R} (h : run X.wd (n + 1) (.opt e σ k) = some r) : Sound X (.opt e σ k) r := by
  have iev : ∀ {e : Expr} {σ : Sg} {k : V → Sg → Option R}, run X.wd n (.ev e σ k) = some r → ∃ v t, k v { σ with tel := t } = some r ∧ SEv X e σ v t ∧ okE e = true := fun h => ih _ _ h
  replace h : optF (run X.wd n) e σ k = some r := h
  show ∃ i t, k i { σ with tel := t } = some r ∧ SOpt X e σ i t
  cases e with
  | none => exact ⟨_, _, h, SOpt.none⟩
  | some e =>
    obtain ⟨v, t1, h, s1, ok⟩ := iev h
    split at h
    · exact ⟨_, t1, h, SOpt.some s1⟩
    · cases h
theorem sound_call {a : Nat} {args : List V} {σ : Sg} {k : V → Sg → Option R} (h : run X.wd (n + 1) (.call a args σ k) = some r) : Sound X (.call a args σ k) r := by
  have iexs : ∀ {l : List Stmt} {σ : Sg} {k : Ks R}, run X.wd n (.exs l σ k) = some r → ∃ o σ', k.at o σ' = some r ∧ SExs X l σ o σ' := fun h => ih _ _ h
  replace h : callF X.wd (run X.wd n) a args σ k = some r := h
  unfold callF at h
  show ∃ v t, k v { σ with tel := t } = some r ∧ SCall X a args σ.d σ.tel v t ∧ isFun X.wd a = true
  split at h
  · rename_i S hS
    split at h
    · rename_i hd
      obtain ⟨v, t', h, key⟩ := H.sums a S hS R args σ.tel _ r h
      exact ⟨v, t', h, key σ.d (Nat.le_of_ble_eq_true hd), by unfold isFun; rw [hS, Option.isSome_some, Bool.or_true]⟩
    · cases h
  · split at h
    · rename_i F d hF hd
      split at h
      · rename_i l hl
        obtain ⟨o, σ', h, s1⟩ := iexs h
        have isf : isFun X.wd a = true := by unfold isFun; rw [hF]; rfl
        cases o with
        | next => exact ⟨.none, σ'.tel, h, hd ▸ SCall.fn (H.fn a F hF) hl s1 (.inl ⟨rfl, rfl⟩), isf⟩
        | ret v => exact ⟨v, σ'.tel, h, hd ▸ SCall.fn (H.fn a F hF) hl s1 (.inr rfl), isf⟩
        | brk => cases h
        | cont => cases h
        | exc c => cases h
      · cases h
    · cases h
theorem sound_whl {t : Expr} {b : List Stmt} {σ : Sg} {k : Ks R} (h : run X.wd (n + 1) (.whl t b σ k) = some r) : Sound X (.whl t b σ k) r := by
  have itst : ∀ {e : Expr} {σ : Sg} {k : Bool → Sg → Option R}, run X.wd n (.tst e σ k) = some r → ∃ b t, k b { σ with tel := t } = some r ∧ STst X e σ b t := fun h => ih _ _ h
  have iexs : ∀ {l : List Stmt} {σ : Sg} {k : Ks R}, run X.wd n (.exs l σ k) = some r → ∃ o σ', k.at o σ' = some r ∧ SExs X l σ o σ' := fun h => ih _ _ h
  have iwhl : ∀ {σ : Sg}, run X.wd n (.whl t b σ k) = some r → Sound X (.whl t b σ k) r := fun h => ih _ _ h
  replace h : whlF (run X.wd n) t b σ k = some r := h
  show (∀ c σ, k.exc c σ = none) → ∃ o σ', k.at o σ' = some r ∧ SLoop X (fun env => .whileLoop t b [] env) σ o σ'
  intro he
  obtain ⟨c, t1, h, s1⟩ := itst h
  cases c with
  | true =>
    obtain ⟨o, σ1, h, s2⟩ := iexs h
    cases o with
    | next =>
      obtain ⟨o', σ', h, s3⟩ := iwhl h he
      exact ⟨o', σ', h, SLoop.whileOn s1 s2 (.inl rfl) s3⟩
    | cont =>
      obtain ⟨o', σ', h, s3⟩ := iwhl h he
      exact ⟨o', σ', h, SLoop.whileOn s1 s2 (.inr rfl) s3⟩
    | brk => exact ⟨.next, σ1, h, SLoop.whileBrk s1 s2⟩
    | ret v => exact ⟨.ret v, σ1, h, SLoop.whileRet s1 s2⟩
    | exc c => cases h
  | false => exact ⟨.next, _, h, SLoop.whileOut s1⟩
theorem sound_fors {t : Expr} {items : List V} {b : List Stmt} {σ : Sg} {k : Ks R} (h : run X.wd (n + 1) (.fors t items b σ k) = some r) : Sound X (.fors t items b σ k) r := by
  have iexs : ∀ {l : List Stmt} {σ : Sg} {k : Ks R}, run X.wd n (.exs l σ k) = some r → ∃ o σ', k.at o σ' = some r ∧ SExs X l σ o σ' := fun h => ih _ _ h
  have ifor : ∀ {items : List V} {σ : Sg}, run X.wd n (.fors t items b σ k) = some r → Sound X (.fors t items b σ k) r := fun h => ih _ _ h
  replace h : forsF (run X.wd n) t items b σ k = some r := h
  show (∀ c σ, k.exc c σ = none) → ∃ o σ', k.at o σ' = some r ∧ SFor X t items b σ o σ'
  intro he
  cases items with
  | nil => exact ⟨.next, _, h, SFor.out⟩
  | cons v items =>
    unfold forsF at h
    dsimp only at h
    split at h
    · rename_i σ1 hb
      obtain ⟨o, σ2, h, s2⟩ := iexs h
      cases o with
      | next =>
        obtain ⟨o', σ', h, s3⟩ := ifor h he
        exact ⟨o', σ', h, SFor.on hb s2 (.inl rfl) s3⟩
      | cont =>
        obtain ⟨o', σ', h, s3⟩ := ifor h he
        exact ⟨o', σ', h, SFor.on hb s2 (.inr rfl) s3⟩
      | brk => exact ⟨.next, σ2, h, SFor.brk hb s2⟩
      | ret v => exact ⟨.ret v, σ2, h, SFor.ret hb s2⟩
      | exc c => cases h
    · cases h
end
end Mine
end
section
set_option autoImplicit false
set_option maxRecDepth 100000
set_option linter.all false
namespace Mine
open PySem PySem.W PySem.Calls PyProof.Rows
variable {X : Fx}
section
variable {R : Type} {n : Nat} {r : R} (H : AllOk X) (ih : ∀ (T : Task R) (r : R), run X.wd n T = some r → Sound X T r)
include H ih
theorem stm_done {st : Stmt} {rest : List Stmt} {σ σ1 : Sg} {o : Out} {k : Ks R} {e : Nat → Sg → Option R} (hs : SStm X st σ o σ1) (he : ∀ c σ, e c σ = none ∨ e c σ = k.exc c σ) (h : Ks.at ⟨fun σ => run X.wd n (.exs rest σ k), k.ret, k.brk, k.cont, e⟩ o σ1 = some r) : ∃ o σ', k.at o σ' = some r ∧ SExs X (st :: rest) σ o σ' := by
  have iexs : ∀ {l : List Stmt} {σ : Sg} {k : Ks R}, run X.wd n (.exs l σ k) = some r → ∃ o σ', k.at o σ' = some r ∧ SExs X l σ o σ' := fun h => ih _ _ h
  cases o with
  | next =>
    obtain ⟨o, σ', h, s2⟩ := iexs h
    exact ⟨o, σ', h, SExs.cons hs s2⟩
  | ret v => exact ⟨.ret v, σ1, h, SExs.stop hs (by nofun)⟩
  | brk => exact ⟨.brk, σ1, h, SExs.stop hs (by nofun)⟩
  | cont => exact ⟨.cont, σ1, h, SExs.stop hs (by nofun)⟩
  | exc c =>
    refine ⟨.exc c, σ1, ?_, SExs.stop hs (by nofun)⟩
    rcases he c σ1 with q | q
    · exact absurd (q.symm.trans h) (by nofun)
    · exact q.symm.trans h
theorem sound_exs {l : List Stmt} {σ : Sg} {k : Ks R} (h : run X.wd (n + 1) (.exs l σ k) = some r) : Sound X (.exs l σ k) r := by
  have iev : ∀ {e : Expr} {σ : Sg} {k : V → Sg → Option R}, run X.wd n (.ev e σ k) = some r → ∃ v t, k v { σ with tel := t } = some r ∧ SEv X e σ v t ∧ okE e = true := fun h => ih _ _ h
  have ievs : ∀ {es : List Expr} {σ : Sg} {k : List V → Sg → Option R}, run X.wd n (.evs es σ k) = some r → ∃ vs t, k vs { σ with tel := t } = some r ∧ SEvs X es σ vs t ∧ vs.length = es.length := fun h => ih _ _ h
  have itst : ∀ {e : Expr} {σ : Sg} {k : Bool → Sg → Option R}, run X.wd n (.tst e σ k) = some r → ∃ b t, k b { σ with tel := t } = some r ∧ STst X e σ b t := fun h => ih _ _ h
  have iexs : ∀ {l : List Stmt} {σ : Sg} {k : Ks R}, run X.wd n (.exs l σ k) = some r → ∃ o σ', k.at o σ' = some r ∧ SExs X l σ o σ' := fun h => ih _ _ h
  have iwhl : ∀ {t : Expr} {b : List Stmt} {σ : Sg} {k : Ks R}, run X.wd n (.whl t b σ k) = some r → Sound X (.whl t b σ k) r := fun h => ih _ _ h
  have ifor : ∀ {t : Expr} {items : List V} {b : List Stmt} {σ : Sg} {k : Ks R}, run X.wd n (.fors t items b σ k) = some r → Sound X (.fors t items b σ k) r := fun h => ih _ _ h
  have done : ∀ {st : Stmt} {rest : List Stmt} {σ σ1 : Sg}, SStm X st σ .next σ1 → run X.wd n (.exs rest σ1 k) = some r → ∃ o σ', k.at o σ' = some r ∧ SExs X (st :: rest) σ o σ' := fun hs h => stm_done (e := k.exc) H ih hs (fun _ _ => .inr rfl) h
  replace h : stsF X.wd (run X.wd n) l σ k = some r := h
  show ∃ o σ', k.at o σ' = some r ∧ SExs X l σ o σ'
  cases l with
  | nil => exact ⟨.next, σ, h, SExs.nil⟩
  | cons st rest =>
    replace h : exsF X.wd (run X.wd n) (fun σ => run X.wd n (.exs rest σ k)) (stK st) σ k = some r := h
    generalize stK st = sk at h
    cases sk with
    | pass p =>
      rw [exsF.eq_1] at h
      exact done SStm.pass h
    | brk p =>
      rw [exsF.eq_2] at h
      exact ⟨.brk, σ, h, SExs.stop SStm.brk (by nofun)⟩
    | cont p =>
      rw [exsF.eq_3] at h
      exact ⟨.cont, σ, h, SExs.stop SStm.cont (by nofun)⟩
    | expr e p =>
      rw [exsF.eq_4] at h
      obtain ⟨v, t, h, s1, ok⟩ := iev h
      exact done (SStm.expr (okE_facts ok).1 s1) h
    | ret e p =>
      rw [exsF.eq_5] at h
      obtain ⟨v, t, h, s1, ok⟩ := iev h
      exact ⟨.ret v, _, h, SExs.stop (SStm.ret s1) (by nofun)⟩
    | comp y py g p1 x1 p2 m kk p3 p4 p5 x p6 iter scope lp q =>
      rw [exsF.eq_6] at h
      split at h
      · rename_i tbl hc hg
        rw [Bool.and_eq_true] at hc
        obtain ⟨v, t, h, s1, ok⟩ := iev h
        split at h
        · split at h
          · rename_i us hp
            split at h
            · rename_i hl hs
              exact done (SStm.comp H.k hc.1 (of_decide_eq_true hc.2) hg (okE_facts ok).1 s1 hp hl hs) h
            · cases h
          · cases h
        · cases h
      · cases h
    | asg x p e q =>
      rw [exsF.eq_7] at h
      obtain ⟨v, t, h, s1, ok⟩ := iev h
      split at h
      · rename_i hp
        exact done (SStm.assign (okE_facts ok).1 s1 hp) h
      · cases h
    | fld o a p e q =>
      rw [exsF.eq_8] at h
      split at h
      · rename_i ho
        obtain ⟨v, t, h, s1, ok⟩ := iev h
        split at h
        · rename_i hp
          exact done (SStm.setF H.k (okE_facts ok).1 ho s1 hp) h
        · cases h
      · cases h
    | swap ts i p vs j p1 q =>
      rw [exsF.eq_9] at h
      split at h
      · rename_i hc
        rw [Bool.and_eq_true] at hc
        obtain ⟨vs, t, h, s1, hl⟩ := ievs h
        split at h
        · rename_i hp
          exact done (SStm.swap hc.1 hc.2 hl s1 hp) h
        · cases h
      · cases h
    | tup ts i p e q =>
      rw [exsF.eq_10] at h
      split at h
      · rename_i xs hnt hn
        obtain ⟨v, t, h, s1, ok⟩ := iev h
        split at h
        · split at h
          · rename_i hp
            exact done (SStm.assignT (okE_facts ok).1 hnt hn s1 hp) h
          · cases h
        · cases h
      · cases h
    | augN x p op e q =>
      rw [exsF.eq_11] at h
      split at h
      · rename_i hx
        obtain ⟨v, t, h, s1, ok⟩ := iev h
        obtain ⟨w, h, s2⟩ := augV_ok h
        split at h
        · rename_i hp
          exact done (SStm.augN H.k hx s1 s2 hp) h
        · cases h
      · cases h
    | augF o a p op e q =>
      rw [exsF.eq_12] at h
      split at h
      · rename_i ho
        split at h
        · rename_i hu
          obtain ⟨v, t, h, s1, ok⟩ := iev h
          obtain ⟨w, h, s2⟩ := augV_ok h
          split at h
          · rename_i hp
            exact done (SStm.augF H.k ho hu s1 s2 hp) h
          · cases h
        · cases h
      · cases h
    | ite t b o q =>
      rw [exsF.eq_13] at h
      obtain ⟨c, t, h, s1⟩ := itst h
      split at h
      · obtain ⟨o, σ1, h, s2⟩ := iexs h
        exact stm_done (e := k.exc) H ih (SStm.ite s1 s2) (fun _ _ => .inr rfl) h
      · obtain ⟨o, σ1, h, s2⟩ := iexs h
        exact stm_done (e := k.exc) H ih (SStm.ite s1 s2) (fun _ _ => .inr rfl) h
    | whl t b q =>
      rw [exsF.eq_14] at h
      obtain ⟨o, σ1, h, s2⟩ := iwhl h fun _ _ => rfl
      exact stm_done (e := fun _ _ => none) H ih (SStm.while s2) (fun _ _ => .inl rfl) h
    | loop t it b q =>
      rw [exsF.eq_15] at h
      obtain ⟨v, t, h, s1, ok⟩ := iev h
      split at h
      · rename_i hi
        obtain ⟨o, σ1, h, s2⟩ := ifor h fun _ _ => rfl
        exact stm_done (e := fun _ _ => none) H ih (SStm.for (okE_facts ok).1 s1 hi s2) (fun _ _ => .inl rfl) h
      · cases h
    | tryE b x p p1 p2 q =>
      rw [exsF.eq_16] at h
      split at h
      · rename_i c hc hg
        obtain ⟨o, σ1, h, s2⟩ := iexs h
        cases o with
        | exc c' =>
          have h2 : (match c == c' with | true => run X.wd n (.exs rest σ1 k) | false => none) = some r := h
          clear h
          cases q : c == c' with
          | true =>
            rw [q] at h2
            obtain rfl := eq_of_beq q
            exact done (SStm.tryCatch H.k hc hg s2) h2
          | false => rw [q] at h2; cases h2
        | next => exact done (SStm.tryOk s2 (by nofun)) h
        | ret v => exact ⟨.ret v, σ1, h, SExs.stop (SStm.tryOk s2 (by nofun)) (by nofun)⟩
        | brk => exact ⟨.brk, σ1, h, SExs.stop (SStm.tryOk s2 (by nofun)) (by nofun)⟩
        | cont => exact ⟨.cont, σ1, h, SExs.stop (SStm.tryOk s2 (by nofun)) (by nofun)⟩
      · cases h
    | raise x p p1 q =>
      rw [exsF.eq_17] at h
      split at h
      · rename_i c hc hg
        exact ⟨.exc c, σ, h, SExs.stop (SStm.raise H.k hc hg) (by nofun)⟩
      · cases h
    | assert t q =>
      rw [exsF.eq_18] at h
      obtain ⟨c, t, h, s1⟩ := itst h
      split at h
      · exact done (SStm.assert s1) h
      · cases h
    | other st =>
      rw [exsF.eq_19] at h
      cases h
end
theorem run_sound (H : AllOk X) {R : Type} : ∀ (n : Nat) (T : Task R) (r : R), run X.wd n T = some r → Sound X T r
  | 0, _, _, h => by cases h
  | n + 1, T, r, h => by
    have ih := run_sound H (R := R) n
    cases T with
    | ev e σ k => exact sound_ev H ih h
    | evs es σ k => exact sound_evs H ih h
    | opt e σ k => exact sound_opt H ih h
    | tst e σ k => exact sound_tst H ih h
    | tsts op es σ k => exact sound_tsts H ih h
    | exs l σ k => exact sound_exs H ih h
    | whl t b σ k => exact sound_whl H ih h
    | fors t items b σ k => exact sound_fors H ih h
    | call a args σ k => exact sound_call H ih h
end Mine
end
section
set_option autoImplicit false
set_option maxRecDepth 100000
set_option linter.all false
namespace Mine
open PySem PySem.W PySem.Calls PyProof.Rows

/-! what the written-out top holds, looked up -/
noncomputable def intAt (es : List DictEntry) (x : Str) (i : Int) : Bool := match getL x es with
  | some (some (.int j _)) => decide (i = j)
  | _ => false
noncomputable def strAt (es : List DictEntry) (x : Str) (s : Str) : Bool := match getL x es with
  | some (some (.str y _)) => s == y
  | _ => false
noncomputable def amB (K : Frag) (CA : Addr) (x : Str) (i r : Int) (a : Addr) : Bool := Nat.ble x.length 1000000 && match K.lookup a with
  | some ⟨.ref c, some d, .plain, ⟨[]⟩⟩ => Nat.beq c CA && (match K.lookup d with
    | some ⟨.type t, none, .dict es n, ⟨[]⟩⟩ => t == "dict" && strAt es.toList "s" x && intAt es.toList "substring_i" i && intAt es.toList "result" r
    | _ => false)
  | _ => false
noncomputable def all2 (f : V → Value → Bool) : List V → List Value → Bool
  | [], [] => true
  | v :: vs, y :: ys => f v y && all2 f vs ys
  | _, _ => false
noncomputable def seqB (K : Frag) (n : String) (a : Addr) (vs : List V) (f : List Value → Bool) : Bool := match K.lookup a with
  | some ⟨.type t, _, .seq items _, _⟩ => t == n && Nat.ble vs.length 1000 && f items.toList
  | _ => false
noncomputable def refB (f : Addr → Bool) : Value → Bool
  | .ref a => f a
  | _ => false
noncomputable def vrS (K : Frag) (CA : Addr) (f : V → Value → Bool) (y : Value) : V → Bool
  | .int i => (match y with | .int j _ => decide (i = j) | _ => false)
  | .str x => (match y with | .str y _ => x == y && Nat.ble x.length 1000000 | _ => false)
  | .cst a => refB (Nat.beq a) y
  | .bi n => (match y with | .builtin m => n == m | _ => false)
  | .ty n => (match y with | .type m => n == m | _ => false)
  | .am x i r => refB (amB K CA x i r) y
  | .lst vs => refB (fun a => seqB K "list" a vs (all2 f vs)) y
  | .tup vs => refB (fun a => seqB K "tuple" a vs (all2 f vs)) y
  | _ => false
noncomputable def vrB (K : Frag) (CA : Addr) : Nat → V → Value → Bool
  | 0, _, _ => false
  | n + 1, v, y => vrS K CA (vrB K CA n) y v
variable {X : Fx}
theorem amB_ok {x : Str} {i r : Int} {a : Addr} (h : amB X.K X.CA x i r a = true) : AmAt X x i r a := by
  unfold amB at h
  rw [Bool.and_eq_true] at h
  obtain ⟨hl, h⟩ := h
  refine ⟨Nat.le_of_ble_eq_true hl, ?_⟩
  split at h
  · rename_i c d hk
    rw [Bool.and_eq_true] at h
    obtain ⟨hc, h⟩ := h
    obtain rfl := Nat.eq_of_beq_eq_true hc
    split at h
    · rename_i t es n hd
      simp only [Bool.and_eq_true] at h
      obtain ⟨⟨⟨ht, h1⟩, h2⟩, h3⟩ := h
      obtain rfl := eq_of_beq ht
      unfold strAt at h1
      unfold intAt at h2 h3
      split at h1
      · rename_i y ty hy
        obtain rfl := eq_of_beq h1
        split at h2
        · rename_i j tj hj
          obtain rfl := of_decide_eq_true h2
          split at h3
          · rename_i k tk hkk
            obtain rfl := of_decide_eq_true h3
            refine ⟨d, es.toList, n, ty, tj, tk, hk, ?_, hy, hj, hkk⟩
            rw [hd]
          · cases h3
        · cases h2
      · cases h1
    · cases h
  · cases h
theorem all2_ok {f : V → Value → Bool} (hf : ∀ v y, f v y = true → ∀ nw, VR X nw v y) : ∀ {vs : List V} {ys : List Value}, all2 f vs ys = true → ∀ nw, VRs X nw vs ys
  | [], [], _, nw => .nil
  | v :: vs, y :: ys, h, nw => by
    unfold all2 at h
    rw [Bool.and_eq_true] at h
    exact .cons _ _ _ _ (hf v y h.1 nw) (all2_ok hf h.2 nw)
  | [], _ :: _, h, _ => by cases h
  | _ :: _, [], h, _ => by cases h
theorem refB_ok {f : Addr → Bool} {y : Value} (h : refB f y = true) : ∃ a, y = .ref a ∧ f a = true := by
  cases y <;> first | exact ⟨_, rfl, h⟩ | cases h
theorem seqB_ok {K : Frag} {n : String} {a : Addr} {vs : List V} {f : List Value → Bool} (h : seqB K n a vs f = true) : ∃ o items k, K.lookup a = some o ∧ o.cls = .type n ∧ o.data = .seq items k ∧ vs.length ≤ 1000 ∧ f items.toList = true := by
  unfold seqB at h
  split at h
  · rename_i t dd items k sl hk
    simp only [Bool.and_eq_true] at h
    obtain ⟨⟨ht, hl⟩, h⟩ := h
    obtain rfl := eq_of_beq ht
    exact ⟨_, items, k, hk, rfl, rfl, Nat.le_of_ble_eq_true hl, h⟩
  · cases h
theorem vrB_ok (HC : ∀ a o, X.K.lookup a = some o → X.Hc a o) : ∀ (n : Nat) (v : V) (y : Value), vrB X.K X.CA n v y = true → ∀ nw, VR X nw v y
  | 0, _, _, h, _ => by cases h
  | n + 1, v, y, h, nw => by
    have h : vrS X.K X.CA (vrB X.K X.CA n) y v = true := h
    cases v with
    | int i => cases y <;> first | (obtain rfl := of_decide_eq_true h; exact .int _ _) | cases h
    | str x => cases y <;> first | (have h := Bool.and_eq_true_iff.mp h; obtain rfl := eq_of_beq h.1; exact .str _ _ (Nat.le_of_ble_eq_true h.2)) | cases h
    | cst a =>
      obtain ⟨b, rfl, h⟩ := refB_ok h
      obtain rfl := Nat.eq_of_beq_eq_true h
      exact .cst _
    | bi n => cases y <;> first | (obtain rfl := eq_of_beq h; exact .bi _) | cases h
    | ty n => cases y <;> first | (obtain rfl := eq_of_beq h; exact .ty _) | cases h
    | am x i r =>
      obtain ⟨b, rfl, h⟩ := refB_ok h
      exact .am _ _ _ _ (amB_ok h)
    | lst vs =>
      obtain ⟨b, rfl, h⟩ := refB_ok h
      obtain ⟨o, items, k, hk, h1, h2, hl, h⟩ := seqB_ok h
      exact .lst _ _ _ items k (.inr (HC _ _ hk)) h1 h2 (all2_ok (fun v y q => vrB_ok HC n v y q) h nw) hl
    | tup vs =>
      obtain ⟨b, rfl, h⟩ := refB_ok h
      obtain ⟨o, items, k, hk, h1, h2, hl, h⟩ := seqB_ok h
      exact .tup _ _ _ items k (.inr (HC _ _ hk)) h1 h2 (all2_ok (fun v y q => vrB_ok HC n v y q) h nw) hl
    | _ => cases h
theorem lookD_all {α : Type} {P : Str → V → Prop} : ∀ {l : List (Str × V)}, (∀ p ∈ l, P p.1 p.2) → ∀ x v, lookD x l = some v → P x v
  | (y, u) :: r, h, x, v, e => by
    unfold lookD at e
    cases hx : (x == y) with
    | true =>
      rw [hx] at e
      obtain rfl := Option.some.inj e
      rw [eq_of_beq hx]
      exact h (y, u) (.head _)
    | false =>
      rw [hx] at e
      exact lookD_all (α := α) (fun p hp => h p (.tail _ hp)) x v e
theorem lookN_all {P : Str → Nat → Prop} : ∀ {l : List (Str × Nat)}, (∀ p ∈ l, P p.1 p.2) → ∀ x v, lookN x l = some v → P x v
  | (y, u) :: r, h, x, v, e => by
    unfold lookN at e
    cases hx : (x == y) with
    | true =>
      rw [hx] at e
      obtain rfl := Option.some.inj e
      rw [eq_of_beq hx]
      exact h (y, u) (.head _)
    | false =>
      rw [hx] at e
      exact lookN_all (fun p hp => h p (.tail _ hp)) x v e
end Mine
end
section
set_option autoImplicit false
set_option maxRecDepth 1000000
set_option linter.all false
namespace Mine
open PySem PySem.W PySem.Calls PyProof.Rows

/-! the set -/
noncomputable abbrev SD := Array (Int × Value) × Nat × SetTable
noncomputable def setO (D : SD) : Obj := { cls := .type "set", data := .set D.1 D.2.1 D.2.2 }
noncomputable def addD (h : Int) (x : Value) (D : SD) : SD :=
  let L := layNew D.2.2 D.1 h x
  let t1 : SetTable := if L.2.1.plain then { L.2.1 with plain := false } else L.2.1
  if (!L.2.2.1 && t1.tooFull) = true then
    let q := relayAll t1 L.1 (SetTable.grown L.1.size)
    (q.1, D.2.1 + 1 + 1, q.2.1)
  else (L.1, D.2.1 + 1, t1)
noncomputable def D0 (w : World) : SD := (#[], 0, .fresh 0 0 (!w.params.followText "set-order"))
noncomputable def D1 (w : World) : SD := addD (hashStr w "a") (.str "a" 487) (D0 w)
noncomputable def D2 (w : World) : SD := addD (hashStr w "e") (.str "e" 488) (D1 w)
noncomputable def D3 (w : World) : SD := addD (hashStr w "i") (.str "i" 489) (D2 w)
noncomputable def D4 (w : World) : SD := addD (hashStr w "o") (.str "o" 490) (D3 w)
noncomputable def D5 (w : World) : SD := addD (hashStr w "u") (.str "u" 491) (D4 w)
noncomputable def D6 (w : World) : SD := ((D5 w).1, (D5 w).2.1 + 1, { (D5 w).2.2 with led := false })
noncomputable def wOf (p : Params) : World := ⟨fun _ _ => 0, p⟩
theorem h_of (w : World) (x : Str) : hashStr (wOf w.params) x = hashStr w x := rfl
theorem D0_of (w : World) : D0 (wOf w.params) = D0 w := rfl
theorem D1_of (w : World) : D1 (wOf w.params) = D1 w := by
  unfold D1
  rw [h_of, D0_of]
theorem D2_of (w : World) : D2 (wOf w.params) = D2 w := by
  unfold D2
  rw [h_of, D1_of]
theorem D3_of (w : World) : D3 (wOf w.params) = D3 w := by
  unfold D3
  rw [h_of, D2_of]
theorem D4_of (w : World) : D4 (wOf w.params) = D4 w := by
  unfold D4
  rw [h_of, D3_of]
theorem D5_of (w : World) : D5 (wOf w.params) = D5 w := by
  unfold D5
  rw [h_of, D4_of]
theorem D6_of (w : World) : D6 (wOf w.params) = D6 w := by
  unfold D6
  rw [D5_of]
noncomputable def gEs (p : Params) : Array (Int × Value) := (D6 (wOf p)).1
noncomputable def gEp (p : Params) : Nat := (D6 (wOf p)).2.1
noncomputable def gT (p : Params) : SetTable := (D6 (wOf p)).2.2
noncomputable def o232 (p : Params) : Obj := { cls := .type "set", data := .set (gEs p) (gEp p) (gT p) }
theorem o232_eq (w : World) : setO (D6 w) = o232 w.params := by
  unfold setO o232 gEs gEp gT
  rw [D6_of]
end Mine
end
section
set_option autoImplicit false
set_option maxRecDepth 1000000
set_option linter.all false
namespace Mine
open PySem PySem.W PySem.Calls PyProof.Rows

noncomputable def o0_0 (p : Params) : Obj := Obj.mk (Value.type "dict") Option.none (Data.dict #[DictEntry.mk (PyData.keyHash p (Str.ofString "__name__")) (Value.str (Str.ofString "__name__") 1) (Value.str (Str.ofString "builtins") 160), DictEntry.mk (PyData.keyHash p (Str.ofString "__doc__")) (Value.str (Str.ofString "__doc__") 2) (Value.builtin "builtins.__doc__:str#opaque"), DictEntry.mk (PyData.keyHash p (Str.ofString "__package__")) (Value.str (Str.ofString "__package__") 3) (Value.builtin "builtins.__package__:str#opaque"), DictEntry.mk (PyData.keyHash p (Str.ofString "__loader__")) (Value.str (Str.ofString "__loader__") 4) (Value.builtin "builtins.__loader__:shared#opaque"), DictEntry.mk (PyData.keyHash p (Str.ofString "__spec__")) (Value.str (Str.ofString "__spec__") 5) (Value.builtin "builtins.__spec__#opaque"), DictEntry.mk (PyData.keyHash p (Str.ofString "__build_class__")) (Value.str (Str.ofString "__build_class__") 6) (Value.builtin "__build_class__"), DictEntry.mk (PyData.keyHash p (Str.ofString "__import__")) (Value.str (Str.ofString "__import__") 7) (Value.builtin "__import__"), DictEntry.mk (PyData.keyHash p (Str.ofString "abs")) (Value.str (Str.ofString "abs") 8) (Value.builtin "abs"), DictEntry.mk (PyData.keyHash p (Str.ofString "all")) (Value.str (Str.ofString "all") 9) (Value.builtin "all"), DictEntry.mk (PyData.keyHash p (Str.ofString "any")) (Value.str (Str.ofString "any") 10) (Value.builtin "any"), DictEntry.mk (PyData.keyHash p (Str.ofString "ascii")) (Value.str (Str.ofString "ascii") 11) (Value.builtin "ascii"), DictEntry.mk (PyData.keyHash p (Str.ofString "bin")) (Value.str (Str.ofString "bin") 12) (Value.builtin "bin"), DictEntry.mk (PyData.keyHash p (Str.ofString "breakpoint")) (Value.str (Str.ofString "breakpoint") 13) (Value.builtin "breakpoint"), DictEntry.mk (PyData.keyHash p (Str.ofString "callable")) (Value.str (Str.ofString "callable") 14) (Value.builtin "callable"), DictEntry.mk (PyData.keyHash p (Str.ofString "chr")) (Value.str (Str.ofString "chr") 15) (Value.builtin "chr"), DictEntry.mk (PyData.keyHash p (Str.ofString "compile")) (Value.str (Str.ofString "compile") 16) (Value.builtin "compile"), DictEntry.mk (PyData.keyHash p (Str.ofString "delattr")) (Value.str (Str.ofString "delattr") 17) (Value.builtin "delattr"), DictEntry.mk (PyData.keyHash p (Str.ofString "dir")) (Value.str (Str.ofString "dir") 18) (Value.builtin "dir"), DictEntry.mk (PyData.keyHash p (Str.ofString "divmod")) (Value.str (Str.ofString "divmod") 19) (Value.builtin "divmod"), DictEntry.mk (PyData.keyHash p (Str.ofString "eval")) (Value.str (Str.ofString "eval") 20) (Value.builtin "eval"), DictEntry.mk (PyData.keyHash p (Str.ofString "exec")) (Value.str (Str.ofString "exec") 21) (Value.builtin "exec"), DictEntry.mk (PyData.keyHash p (Str.ofString "format")) (Value.str (Str.ofString "format") 22) (Value.builtin "format"), DictEntry.mk (PyData.keyHash p (Str.ofString "getattr")) (Value.str (Str.ofString "getattr") 23) (Value.builtin "getattr"), DictEntry.mk (PyData.keyHash p (Str.ofString "globals")) (Value.str (Str.ofString "globals") 24) (Value.builtin "globals"), DictEntry.mk (PyData.keyHash p (Str.ofString "hasattr")) (Value.str (Str.ofString "hasattr") 25) (Value.builtin "hasattr"), DictEntry.mk (PyData.keyHash p (Str.ofString "hash")) (Value.str (Str.ofString "hash") 26) (Value.builtin "hash"), DictEntry.mk (PyData.keyHash p (Str.ofString "hex")) (Value.str (Str.ofString "hex") 27) (Value.builtin "hex"), DictEntry.mk (PyData.keyHash p (Str.ofString "id")) (Value.str (Str.ofString "id") 28) (Value.builtin "id"), DictEntry.mk (PyData.keyHash p (Str.ofString "input")) (Value.str (Str.ofString "input") 29) (Value.builtin "input"), DictEntry.mk (PyData.keyHash p (Str.ofString "isinstance")) (Value.str (Str.ofString "isinstance") 30) (Value.builtin "isinstance"), DictEntry.mk (PyData.keyHash p (Str.ofString "issubclass")) (Value.str (Str.ofString "issubclass") 31) (Value.builtin "issubclass"), DictEntry.mk (PyData.keyHash p (Str.ofString "iter")) (Value.str (Str.ofString "iter") 32) (Value.builtin "iter"), DictEntry.mk (PyData.keyHash p (Str.ofString "aiter")) (Value.str (Str.ofString "aiter") 33) (Value.builtin "aiter"), DictEntry.mk (PyData.keyHash p (Str.ofString "len")) (Value.str (Str.ofString "len") 34) (Value.builtin "len"), DictEntry.mk (PyData.keyHash p (Str.ofString "locals")) (Value.str (Str.ofString "locals") 35) (Value.builtin "locals"), DictEntry.mk (PyData.keyHash p (Str.ofString "max")) (Value.str (Str.ofString "max") 36) (Value.builtin "max"), DictEntry.mk (PyData.keyHash p (Str.ofString "min")) (Value.str (Str.ofString "min") 37) (Value.builtin "min"), DictEntry.mk (PyData.keyHash p (Str.ofString "next")) (Value.str (Str.ofString "next") 38) (Value.builtin "next"), DictEntry.mk (PyData.keyHash p (Str.ofString "anext")) (Value.str (Str.ofString "anext") 39) (Value.builtin "anext"), DictEntry.mk (PyData.keyHash p (Str.ofString "oct")) (Value.str (Str.ofString "oct") 40) (Value.builtin "oct"), DictEntry.mk (PyData.keyHash p (Str.ofString "ord")) (Value.str (Str.ofString "ord") 41) (Value.builtin "ord"), DictEntry.mk (PyData.keyHash p (Str.ofString "pow")) (Value.str (Str.ofString "pow") 42) (Value.builtin "pow"), DictEntry.mk (PyData.keyHash p (Str.ofString "print")) (Value.str (Str.ofString "print") 43) (Value.builtin "print"), DictEntry.mk (PyData.keyHash p (Str.ofString "repr")) (Value.str (Str.ofString "repr") 44) (Value.builtin "repr"), DictEntry.mk (PyData.keyHash p (Str.ofString "round")) (Value.str (Str.ofString "round") 45) (Value.builtin "round"), DictEntry.mk (PyData.keyHash p (Str.ofString "setattr")) (Value.str (Str.ofString "setattr") 46) (Value.builtin "setattr"), DictEntry.mk (PyData.keyHash p (Str.ofString "sorted")) (Value.str (Str.ofString "sorted") 47) (Value.builtin "sorted"), DictEntry.mk (PyData.keyHash p (Str.ofString "sum")) (Value.str (Str.ofString "sum") 48) (Value.builtin "sum"), DictEntry.mk (PyData.keyHash p (Str.ofString "vars")) (Value.str (Str.ofString "vars") 49) (Value.builtin "vars"), DictEntry.mk (PyData.keyHash p (Str.ofString "None")) (Value.str (Str.ofString "None") 50) Value.none, DictEntry.mk (PyData.keyHash p (Str.ofString "Ellipsis")) (Value.str (Str.ofString "Ellipsis") 51) Value.ellipsis, DictEntry.mk (PyData.keyHash p (Str.ofString "NotImplemented")) (Value.str (Str.ofString "NotImplemented") 52) Value.notImplemented, DictEntry.mk (PyData.keyHash p (Str.ofString "False")) (Value.str (Str.ofString "False") 53) (Value.bool Bool.false), DictEntry.mk (PyData.keyHash p (Str.ofString "True")) (Value.str (Str.ofString "True") 54) (Value.bool Bool.true), DictEntry.mk (PyData.keyHash p (Str.ofString "bool")) (Value.str (Str.ofString "bool") 55) (Value.type "bool"), DictEntry.mk (PyData.keyHash p (Str.ofString "memoryview")) (Value.str (Str.ofString "memoryview") 56) (Value.type "memoryview"), DictEntry.mk (PyData.keyHash p (Str.ofString "bytearray")) (Value.str (Str.ofString "bytearray") 57) (Value.type "bytearray"), DictEntry.mk (PyData.keyHash p (Str.ofString "bytes")) (Value.str (Str.ofString "bytes") 58) (Value.type "bytes"), DictEntry.mk (PyData.keyHash p (Str.ofString "classmethod")) (Value.str (Str.ofString "classmethod") 59) (Value.type "classmethod"), DictEntry.mk (PyData.keyHash p (Str.ofString "complex")) (Value.str (Str.ofString "complex") 60) (Value.type "complex"), DictEntry.mk (PyData.keyHash p (Str.ofString "dict")) (Value.str (Str.ofString "dict") 61) (Value.type "dict"), DictEntry.mk (PyData.keyHash p (Str.ofString "enumerate")) (Value.str (Str.ofString "enumerate") 62) (Value.type "enumerate"), DictEntry.mk (PyData.keyHash p (Str.ofString "filter")) (Value.str (Str.ofString "filter") 63) (Value.type "filter"), DictEntry.mk (PyData.keyHash p (Str.ofString "float")) (Value.str (Str.ofString "float") 64) (Value.type "float"), DictEntry.mk (PyData.keyHash p (Str.ofString "frozenset")) (Value.str (Str.ofString "frozenset") 65) (Value.type "frozenset"), DictEntry.mk (PyData.keyHash p (Str.ofString "property")) (Value.str (Str.ofString "property") 66) (Value.type "property"), DictEntry.mk (PyData.keyHash p (Str.ofString "int")) (Value.str (Str.ofString "int") 67) (Value.type "int"), DictEntry.mk (PyData.keyHash p (Str.ofString "list")) (Value.str (Str.ofString "list") 68) (Value.type "list"), DictEntry.mk (PyData.keyHash p (Str.ofString "map")) (Value.str (Str.ofString "map") 69) (Value.type "map"), DictEntry.mk (PyData.keyHash p (Str.ofString "object")) (Value.str (Str.ofString "object") 70) (Value.type "object"), DictEntry.mk (PyData.keyHash p (Str.ofString "range")) (Value.str (Str.ofString "range") 71) (Value.type "range"), DictEntry.mk (PyData.keyHash p (Str.ofString "reversed")) (Value.str (Str.ofString "reversed") 72) (Value.type "reversed"), DictEntry.mk (PyData.keyHash p (Str.ofString "set")) (Value.str (Str.ofString "set") 73) (Value.type "set"), DictEntry.mk (PyData.keyHash p (Str.ofString "slice")) (Value.str (Str.ofString "slice") 74) (Value.type "slice"), DictEntry.mk (PyData.keyHash p (Str.ofString "staticmethod")) (Value.str (Str.ofString "staticmethod") 75) (Value.type "staticmethod"), DictEntry.mk (PyData.keyHash p (Str.ofString "str")) (Value.str (Str.ofString "str") 76) (Value.type "str"), DictEntry.mk (PyData.keyHash p (Str.ofString "super")) (Value.str (Str.ofString "super") 77) (Value.type "super"), DictEntry.mk (PyData.keyHash p (Str.ofString "tuple")) (Value.str (Str.ofString "tuple") 78) (Value.type "tuple"), DictEntry.mk (PyData.keyHash p (Str.ofString "type")) (Value.str (Str.ofString "type") 79) (Value.type "type"), DictEntry.mk (PyData.keyHash p (Str.ofString "zip")) (Value.str (Str.ofString "zip") 80) (Value.type "zip"), DictEntry.mk (PyData.keyHash p (Str.ofString "__debug__")) (Value.str (Str.ofString "__debug__") 81) (Value.bool Bool.true), DictEntry.mk (PyData.keyHash p (Str.ofString "BaseException")) (Value.str (Str.ofString "BaseException") 82) (Value.type "BaseException"), DictEntry.mk (PyData.keyHash p (Str.ofString "BaseExceptionGroup")) (Value.str (Str.ofString "BaseExceptionGroup") 83) (Value.type "BaseExceptionGroup"), DictEntry.mk (PyData.keyHash p (Str.ofString "Exception")) (Value.str (Str.ofString "Exception") 84) (Value.type "Exception"), DictEntry.mk (PyData.keyHash p (Str.ofString "GeneratorExit")) (Value.str (Str.ofString "GeneratorExit") 85) (Value.type "GeneratorExit"), DictEntry.mk (PyData.keyHash p (Str.ofString "KeyboardInterrupt")) (Value.str (Str.ofString "KeyboardInterrupt") 86) (Value.type "KeyboardInterrupt"), DictEntry.mk (PyData.keyHash p (Str.ofString "SystemExit")) (Value.str (Str.ofString "SystemExit") 87) (Value.type "SystemExit"), DictEntry.mk (PyData.keyHash p (Str.ofString "ArithmeticError")) (Value.str (Str.ofString "ArithmeticError") 88) (Value.type "ArithmeticError"), DictEntry.mk (PyData.keyHash p (Str.ofString "AssertionError")) (Value.str (Str.ofString "AssertionError") 89) (Value.type "AssertionError"), DictEntry.mk (PyData.keyHash p (Str.ofString "AttributeError")) (Value.str (Str.ofString "AttributeError") 90) (Value.type "AttributeError"), DictEntry.mk (PyData.keyHash p (Str.ofString "BufferError")) (Value.str (Str.ofString "BufferError") 91) (Value.type "BufferError"), DictEntry.mk (PyData.keyHash p (Str.ofString "EOFError")) (Value.str (Str.ofString "EOFError") 92) (Value.type "EOFError"), DictEntry.mk (PyData.keyHash p (Str.ofString "ImportError")) (Value.str (Str.ofString "ImportError") 93) (Value.type "ImportError"), DictEntry.mk (PyData.keyHash p (Str.ofString "LookupError")) (Value.str (Str.ofString "LookupError") 94) (Value.type "LookupError"), DictEntry.mk (PyData.keyHash p (Str.ofString "MemoryError")) (Value.str (Str.ofString "MemoryError") 95) (Value.type "MemoryError"), DictEntry.mk (PyData.keyHash p (Str.ofString "NameError")) (Value.str (Str.ofString "NameError") 96) (Value.type "NameError"), DictEntry.mk (PyData.keyHash p (Str.ofString "OSError")) (Value.str (Str.ofString "OSError") 97) (Value.type "OSError"), DictEntry.mk (PyData.keyHash p (Str.ofString "ReferenceError")) (Value.str (Str.ofString "ReferenceError") 98) (Value.type "ReferenceError"), DictEntry.mk (PyData.keyHash p (Str.ofString "RuntimeError")) (Value.str (Str.ofString "RuntimeError") 99) (Value.type "RuntimeError"), DictEntry.mk (PyData.keyHash p (Str.ofString "StopAsyncIteration")) (Value.str (Str.ofString "StopAsyncIteration") 100) (Value.type "StopAsyncIteration"), DictEntry.mk (PyData.keyHash p (Str.ofString "StopIteration")) (Value.str (Str.ofString "StopIteration") 101) (Value.type "StopIteration"), DictEntry.mk (PyData.keyHash p (Str.ofString "SyntaxError")) (Value.str (Str.ofString "SyntaxError") 102) (Value.type "SyntaxError"), DictEntry.mk (PyData.keyHash p (Str.ofString "SystemError")) (Value.str (Str.ofString "SystemError") 103) (Value.type "SystemError"), DictEntry.mk (PyData.keyHash p (Str.ofString "TypeError")) (Value.str (Str.ofString "TypeError") 104) (Value.type "TypeError"), DictEntry.mk (PyData.keyHash p (Str.ofString "ValueError")) (Value.str (Str.ofString "ValueError") 105) (Value.type "ValueError"), DictEntry.mk (PyData.keyHash p (Str.ofString "Warning")) (Value.str (Str.ofString "Warning") 106) (Value.type "Warning"), DictEntry.mk (PyData.keyHash p (Str.ofString "FloatingPointError")) (Value.str (Str.ofString "FloatingPointError") 107) (Value.type "FloatingPointError"), DictEntry.mk (PyData.keyHash p (Str.ofString "OverflowError")) (Value.str (Str.ofString "OverflowError") 108) (Value.type "OverflowError"), DictEntry.mk (PyData.keyHash p (Str.ofString "ZeroDivisionError")) (Value.str (Str.ofString "ZeroDivisionError") 109) (Value.type "ZeroDivisionError"), DictEntry.mk (PyData.keyHash p (Str.ofString "BytesWarning")) (Value.str (Str.ofString "BytesWarning") 110) (Value.type "BytesWarning"), DictEntry.mk (PyData.keyHash p (Str.ofString "DeprecationWarning")) (Value.str (Str.ofString "DeprecationWarning") 111) (Value.type "DeprecationWarning"), DictEntry.mk (PyData.keyHash p (Str.ofString "EncodingWarning")) (Value.str (Str.ofString "EncodingWarning") 112) (Value.type "EncodingWarning"), DictEntry.mk (PyData.keyHash p (Str.ofString "FutureWarning")) (Value.str (Str.ofString "FutureWarning") 113) (Value.type "FutureWarning"), DictEntry.mk (PyData.keyHash p (Str.ofString "ImportWarning")) (Value.str (Str.ofString "ImportWarning") 114) (Value.type "ImportWarning"), DictEntry.mk (PyData.keyHash p (Str.ofString "PendingDeprecationWarning")) (Value.str (Str.ofString "PendingDeprecationWarning") 115) (Value.type "PendingDeprecationWarning"), DictEntry.mk (PyData.keyHash p (Str.ofString "ResourceWarning")) (Value.str (Str.ofString "ResourceWarning") 116) (Value.type "ResourceWarning"), DictEntry.mk (PyData.keyHash p (Str.ofString "RuntimeWarning")) (Value.str (Str.ofString "RuntimeWarning") 117) (Value.type "RuntimeWarning"), DictEntry.mk (PyData.keyHash p (Str.ofString "SyntaxWarning")) (Value.str (Str.ofString "SyntaxWarning") 118) (Value.type "SyntaxWarning"), DictEntry.mk (PyData.keyHash p (Str.ofString "UnicodeWarning")) (Value.str (Str.ofString "UnicodeWarning") 119) (Value.type "UnicodeWarning"), DictEntry.mk (PyData.keyHash p (Str.ofString "UserWarning")) (Value.str (Str.ofString "UserWarning") 120) (Value.type "UserWarning"), DictEntry.mk (PyData.keyHash p (Str.ofString "BlockingIOError")) (Value.str (Str.ofString "BlockingIOError") 121) (Value.type "BlockingIOError"), DictEntry.mk (PyData.keyHash p (Str.ofString "ChildProcessError")) (Value.str (Str.ofString "ChildProcessError") 122) (Value.type "ChildProcessError"), DictEntry.mk (PyData.keyHash p (Str.ofString "ConnectionError")) (Value.str (Str.ofString "ConnectionError") 123) (Value.type "ConnectionError"), DictEntry.mk (PyData.keyHash p (Str.ofString "FileExistsError")) (Value.str (Str.ofString "FileExistsError") 124) (Value.type "FileExistsError"), DictEntry.mk (PyData.keyHash p (Str.ofString "FileNotFoundError")) (Value.str (Str.ofString "FileNotFoundError") 125) (Value.type "FileNotFoundError"), DictEntry.mk (PyData.keyHash p (Str.ofString "InterruptedError")) (Value.str (Str.ofString "InterruptedError") 126) (Value.type "InterruptedError"), DictEntry.mk (PyData.keyHash p (Str.ofString "IsADirectoryError")) (Value.str (Str.ofString "IsADirectoryError") 127) (Value.type "IsADirectoryError"), DictEntry.mk (PyData.keyHash p (Str.ofString "NotADirectoryError")) (Value.str (Str.ofString "NotADirectoryError") 128) (Value.type "NotADirectoryError"), DictEntry.mk (PyData.keyHash p (Str.ofString "PermissionError")) (Value.str (Str.ofString "PermissionError") 129) (Value.type "PermissionError"), DictEntry.mk (PyData.keyHash p (Str.ofString "ProcessLookupError")) (Value.str (Str.ofString "ProcessLookupError") 130) (Value.type "ProcessLookupError"), DictEntry.mk (PyData.keyHash p (Str.ofString "TimeoutError")) (Value.str (Str.ofString "TimeoutError") 131) (Value.type "TimeoutError"), DictEntry.mk (PyData.keyHash p (Str.ofString "IndentationError")) (Value.str (Str.ofString "IndentationError") 132) (Value.type "IndentationError"), DictEntry.mk (PyData.keyHash p (Str.ofString "_IncompleteInputError")) (Value.str (Str.ofString "_IncompleteInputError") 133) (Value.type "_IncompleteInputError"), DictEntry.mk (PyData.keyHash p (Str.ofString "IndexError")) (Value.str (Str.ofString "IndexError") 134) (Value.type "IndexError"), DictEntry.mk (PyData.keyHash p (Str.ofString "KeyError")) (Value.str (Str.ofString "KeyError") 135) (Value.type "KeyError"), DictEntry.mk (PyData.keyHash p (Str.ofString "ModuleNotFoundError")) (Value.str (Str.ofString "ModuleNotFoundError") 136) (Value.type "ModuleNotFoundError"), DictEntry.mk (PyData.keyHash p (Str.ofString "NotImplementedError")) (Value.str (Str.ofString "NotImplementedError") 137) (Value.type "NotImplementedError"), DictEntry.mk (PyData.keyHash p (Str.ofString "PythonFinalizationError")) (Value.str (Str.ofString "PythonFinalizationError") 138) (Value.type "PythonFinalizationError"), DictEntry.mk (PyData.keyHash p (Str.ofString "RecursionError")) (Value.str (Str.ofString "RecursionError") 139) (Value.type "RecursionError"), DictEntry.mk (PyData.keyHash p (Str.ofString "UnboundLocalError")) (Value.str (Str.ofString "UnboundLocalError") 140) (Value.type "UnboundLocalError"), DictEntry.mk (PyData.keyHash p (Str.ofString "UnicodeError")) (Value.str (Str.ofString "UnicodeError") 141) (Value.type "UnicodeError"), DictEntry.mk (PyData.keyHash p (Str.ofString "BrokenPipeError")) (Value.str (Str.ofString "BrokenPipeError") 142) (Value.type "BrokenPipeError"), DictEntry.mk (PyData.keyHash p (Str.ofString "ConnectionAbortedError")) (Value.str (Str.ofString "ConnectionAbortedError") 143) (Value.type "ConnectionAbortedError"), DictEntry.mk (PyData.keyHash p (Str.ofString "ConnectionRefusedError")) (Value.str (Str.ofString "ConnectionRefusedError") 144) (Value.type "ConnectionRefusedError"), DictEntry.mk (PyData.keyHash p (Str.ofString "ConnectionResetError")) (Value.str (Str.ofString "ConnectionResetError") 145) (Value.type "ConnectionResetError"), DictEntry.mk (PyData.keyHash p (Str.ofString "TabError")) (Value.str (Str.ofString "TabError") 146) (Value.type "TabError"), DictEntry.mk (PyData.keyHash p (Str.ofString "UnicodeDecodeError")) (Value.str (Str.ofString "UnicodeDecodeError") 147) (Value.type "UnicodeDecodeError"), DictEntry.mk (PyData.keyHash p (Str.ofString "UnicodeEncodeError")) (Value.str (Str.ofString "UnicodeEncodeError") 148) (Value.type "UnicodeEncodeError"), DictEntry.mk (PyData.keyHash p (Str.ofString "UnicodeTranslateError")) (Value.str (Str.ofString "UnicodeTranslateError") 149) (Value.type "UnicodeTranslateError"), DictEntry.mk (PyData.keyHash p (Str.ofString "ExceptionGroup")) (Value.str (Str.ofString "ExceptionGroup") 150) (Value.type "ExceptionGroup"), DictEntry.mk (PyData.keyHash p (Str.ofString "EnvironmentError")) (Value.str (Str.ofString "EnvironmentError") 151) (Value.type "OSError"), DictEntry.mk (PyData.keyHash p (Str.ofString "IOError")) (Value.str (Str.ofString "IOError") 152) (Value.type "OSError"), DictEntry.mk (PyData.keyHash p (Str.ofString "open")) (Value.str (Str.ofString "open") 153) (Value.builtin "open"), DictEntry.mk (PyData.keyHash p (Str.ofString "quit")) (Value.str (Str.ofString "quit") 154) (Value.builtin "builtins.quit#opaque"), DictEntry.mk (PyData.keyHash p (Str.ofString "exit")) (Value.str (Str.ofString "exit") 155) (Value.builtin "builtins.exit#opaque"), DictEntry.mk (PyData.keyHash p (Str.ofString "copyright")) (Value.str (Str.ofString "copyright") 156) (Value.builtin "builtins.copyright#opaque"), DictEntry.mk (PyData.keyHash p (Str.ofString "credits")) (Value.str (Str.ofString "credits") 157) (Value.builtin "builtins.credits#opaque"), DictEntry.mk (PyData.keyHash p (Str.ofString "license")) (Value.str (Str.ofString "license") 158) (Value.builtin "builtins.license#opaque"), DictEntry.mk (PyData.keyHash p (Str.ofString "help")) (Value.str (Str.ofString "help") 159) (Value.builtin "builtins.help#opaque")] 159) #[]
noncomputable def o1_0 (p : Params) : Obj := Obj.mk (Value.type "dict") Option.none (Data.dict #[DictEntry.mk (PyData.keyHash p (Str.ofString "builtins")) (Value.str (Str.ofString "builtins") 162) (Value.ref 4), DictEntry.mk (PyData.keyHash p (Str.ofString "__main__")) (Value.str (Str.ofString "__main__") 163) (Value.ref 5)] 2) #[]
noncomputable def o2_0 (p : Params) : Obj := Obj.mk Value.none Option.none (Data.dict #[]) #[]
noncomputable def o3_0 (p : Params) : Obj := Obj.mk (Value.type "dict") Option.none (Data.dict #[DictEntry.mk (PyData.keyHash p (Str.ofString "__name__")) (Value.str (Str.ofString "__name__") 165) (Value.str (Str.ofString "__main__") 164), DictEntry.mk (PyData.keyHash p (Str.ofString "__doc__")) (Value.str (Str.ofString "__doc__") 166) Value.none, DictEntry.mk (PyData.keyHash p (Str.ofString "__package__")) (Value.str (Str.ofString "__package__") 167) Value.none, DictEntry.mk (PyData.keyHash p (Str.ofString "__loader__")) (Value.str (Str.ofString "__loader__") 168) (Value.builtin "__main__.__loader__#opaque"), DictEntry.mk (PyData.keyHash p (Str.ofString "__spec__")) (Value.str (Str.ofString "__spec__") 169) Value.none, DictEntry.mk (PyData.keyHash p (Str.ofString "__annotations__")) (Value.str (Str.ofString "__annotations__") 170) (Value.ref 6), DictEntry.mk (PyData.keyHash p (Str.ofString "__builtins__")) (Value.str (Str.ofString "__builtins__") 171) (Value.ref 4), DictEntry.mk (PyData.keyHash p (Str.ofString "__file__")) (Value.str (Str.ofString "__file__") 173) (Value.str (Str.ofString "/claim/cut.py") 172), DictEntry.mk (PyData.keyHash p (Str.ofString "__cached__")) (Value.str (Str.ofString "__cached__") 174) Value.none] 9) #[]
noncomputable def o4_0 (p : Params) : Obj := Obj.mk (Value.type "module") (Option.some 0) Data.plain #[]
noncomputable def o5_0 (p : Params) : Obj := Obj.mk (Value.type "module") (Option.some 3) Data.plain #[]
noncomputable def o6_0 (p : Params) : Obj := Obj.mk (Value.type "dict") Option.none (Data.dict #[]) #[]
noncomputable def o7_0 (p : Params) : Obj := Obj.mk (Value.type "tuple") Option.none (Data.seq #[]) #[]
noncomputable def o8_0 (p : Params) : Obj := Obj.mk Value.none Option.none (Data.fields #[]) #[]
noncomputable def o9_0 (p : Params) : Obj := Obj.mk (Value.type "code") Option.none (Data.fields #[Value.str (Str.ofString "<module>") 176, Value.str (Str.ofString "<module>") 177, Value.str (Str.ofString "/claim/cut.py") 178, Value.int 1 0, Value.int 0 0, Value.int 0 0, Value.int 0 0, Value.int 0 0, Value.ref 7, Value.bool Bool.false, Value.int 175 0, Value.ref 8, Value.none, Value.none, Value.none, Value.none, Value.int 179 0, Value.int 1 0, Value.str (Str.ofString "/claim/cut.py") 180]) #[]
noncomputable def o10_0 (p : Params) : Obj := Obj.mk (Value.type "frame") Option.none Data.plain #[Option.some (Value.ref 9), Option.some (Value.ref 3), Option.some (Value.ref 3), Option.none, Option.some (Value.str (Str.ofString "__main__") 164), Option.none, Option.some (Value.ref 0)]
noncomputable def o11_0 (p : Params) : Obj := Obj.mk (Value.type "tuple") Option.none (Data.seq #[]) #[]
noncomputable def o12_0 (p : Params) : Obj := Obj.mk Value.none Option.none (Data.fields #[]) #[]
noncomputable def o13_0 (p : Params) : Obj := Obj.mk (Value.type "code") Option.none (Data.fields #[Value.str (Str.ofString "<module>") 182, Value.str (Str.ofString "<module>") 183, Value.str (Str.ofString "/claim/cut.py") 184, Value.int 1 0, Value.int 0 0, Value.int 0 0, Value.int 0 0, Value.int 0 0, Value.ref 11, Value.bool Bool.false, Value.int 181 0, Value.ref 12, Value.none, Value.none, Value.none, Value.none, Value.int 185 0, Value.int 1 0, Value.str (Str.ofString "/claim/cut.py") 186]) #[]
noncomputable def o14_0 (p : Params) : Obj := Obj.mk (Value.type "frame") Option.none Data.plain #[Option.some (Value.ref 13), Option.some (Value.ref 3), Option.some (Value.ref 3), Option.none, Option.some (Value.str (Str.ofString "__main__") 164), Option.none, Option.some (Value.ref 0)]
noncomputable def o3_1 (p : Params) : Obj := Obj.mk (Value.type "dict") Option.none (Data.dict #[DictEntry.mk (PyData.keyHash p (Str.ofString "__name__")) (Value.str (Str.ofString "__name__") 165) (Value.str (Str.ofString "snowballstemmer.basestemmer") 194), DictEntry.mk (PyData.keyHash p (Str.ofString "__doc__")) (Value.str (Str.ofString "__doc__") 166) Value.none, DictEntry.mk (PyData.keyHash p (Str.ofString "__package__")) (Value.str (Str.ofString "__package__") 167) Value.none, DictEntry.mk (PyData.keyHash p (Str.ofString "__loader__")) (Value.str (Str.ofString "__loader__") 168) (Value.builtin "__main__.__loader__#opaque"), DictEntry.mk (PyData.keyHash p (Str.ofString "__spec__")) (Value.str (Str.ofString "__spec__") 169) Value.none, DictEntry.mk (PyData.keyHash p (Str.ofString "__annotations__")) (Value.str (Str.ofString "__annotations__") 170) (Value.ref 6), DictEntry.mk (PyData.keyHash p (Str.ofString "__builtins__")) (Value.str (Str.ofString "__builtins__") 171) (Value.ref 4), DictEntry.mk (PyData.keyHash p (Str.ofString "__file__")) (Value.str (Str.ofString "__file__") 173) (Value.str (Str.ofString "/claim/cut.py") 172), DictEntry.mk (PyData.keyHash p (Str.ofString "__cached__")) (Value.str (Str.ofString "__cached__") 174) Value.none, DictEntry.mk (PyData.keyHash p (Str.ofString "_wall")) (Value.str (Str.ofString "_wall") 193) (Value.ref 21)] 10) #[]
noncomputable def o12_1 (p : Params) : Obj := Obj.mk Value.none Option.none (Data.fields #[Value.int 1 0, Value.int 0 0, Value.ref 20]) #[]
noncomputable def o15_0 (p : Params) : Obj := Obj.mk (Value.type "tuple") Option.none (Data.seq #[]) #[]
noncomputable def o16_0 (p : Params) : Obj := Obj.mk Value.none Option.none (Data.fields #[]) #[]
noncomputable def o17_0 (p : Params) : Obj := Obj.mk (Value.type "tuple") Option.none (Data.seq #[Value.str (Str.ofString "k") 190]) #[]
noncomputable def o18_0 (p : Params) : Obj := Obj.mk (Value.type "tuple") Option.none (Data.seq #[]) #[]
noncomputable def o19_0 (p : Params) : Obj := Obj.mk Value.none Option.none (Data.func (FuncData.mk (Str.ofString "_wall") (Str.ofString "_wall") (fnP (topSt 0)) (FuncBody.stmts (fnB (topSt 0))) (fnS (topSt 0)) 0 [] Value.none Value.none Value.none Value.none Option.none Value.none Value.none 0)) #[]
noncomputable def o20_0 (p : Params) : Obj := Obj.mk (Value.type "code") Option.none (Data.fields #[Value.str (Str.ofString "_wall") 187, Value.str (Str.ofString "_wall") 188, Value.str (Str.ofString "/claim/cut.py") 189, Value.int 1 0, Value.int 1 0, Value.int 0 0, Value.int 0 0, Value.int 3 0, Value.ref 15, Value.bool Bool.true, Value.int 181 0, Value.ref 16, Value.none, Value.ref 17, Value.ref 18, Value.ref 19, Value.int 191 0, Value.int 1 0, Value.str (Str.ofString "/claim/cut.py") 192]) #[]
noncomputable def o21_0 (p : Params) : Obj := Obj.mk (Value.type "function") Option.none (Data.func (FuncData.mk (Str.ofString "_wall") (Str.ofString "_wall") (fnP (topSt 0)) (FuncBody.stmts (fnB (topSt 0))) (fnS (topSt 0)) 3 [] Value.none Value.none Value.none (Value.str (Str.ofString "__main__") 164) Option.none (Value.ref 20) Value.none 0)) #[]
noncomputable def o3_2 (p : Params) : Obj := Obj.mk (Value.type "dict") Option.none (Data.dict #[DictEntry.mk (PyData.keyHash p (Str.ofString "__name__")) (Value.str (Str.ofString "__name__") 165) (Value.str (Str.ofString "snowballstemmer.basestemmer") 194), DictEntry.mk (PyData.keyHash p (Str.ofString "__doc__")) (Value.str (Str.ofString "__doc__") 166) Value.none, DictEntry.mk (PyData.keyHash p (Str.ofString "__package__")) (Value.str (Str.ofString "__package__") 167) Value.none, DictEntry.mk (PyData.keyHash p (Str.ofString "__loader__")) (Value.str (Str.ofString "__loader__") 168) (Value.builtin "__main__.__loader__#opaque"), DictEntry.mk (PyData.keyHash p (Str.ofString "__spec__")) (Value.str (Str.ofString "__spec__") 169) Value.none, DictEntry.mk (PyData.keyHash p (Str.ofString "__annotations__")) (Value.str (Str.ofString "__annotations__") 170) (Value.ref 6), DictEntry.mk (PyData.keyHash p (Str.ofString "__builtins__")) (Value.str (Str.ofString "__builtins__") 171) (Value.ref 4), DictEntry.mk (PyData.keyHash p (Str.ofString "__file__")) (Value.str (Str.ofString "__file__") 173) (Value.str (Str.ofString "/claim/cut.py") 172), DictEntry.mk (PyData.keyHash p (Str.ofString "__cached__")) (Value.str (Str.ofString "__cached__") 174) Value.none, DictEntry.mk (PyData.keyHash p (Str.ofString "_wall")) (Value.str (Str.ofString "_wall") 193) (Value.ref 21), DictEntry.mk (PyData.keyHash p (Str.ofString "BaseStemmer")) (Value.str (Str.ofString "BaseStemmer") 437) (Value.ref 199)] 11) #[]
noncomputable def o12_2 (p : Params) : Obj := Obj.mk Value.none Option.none (Data.fields #[Value.int 1 0, Value.int 0 0, Value.ref 20, Value.int 5 0, Value.int 0 0, Value.ref 27]) #[]
noncomputable def o22_0 (p : Params) : Obj := Obj.mk (Value.type "tuple") Option.none (Data.seq #[]) #[]
noncomputable def o23_0 (p : Params) : Obj := Obj.mk (Value.type "builtin_function_or_method") Option.none (Data.fields #[Value.builtin "type.__prepare__", Value.type "type"]) #[]
noncomputable def o24_0 (p : Params) : Obj := Obj.mk (Value.type "dict") Option.none (Data.dict #[DictEntry.mk (PyData.keyHash p (Str.ofString "__module__")) (Value.str (Str.ofString "__module__") 203) (Value.str (Str.ofString "snowballstemmer.basestemmer") 194), DictEntry.mk (PyData.keyHash p (Str.ofString "__qualname__")) (Value.str (Str.ofString "__qualname__") 205) (Value.str (Str.ofString "BaseStemmer") 204), DictEntry.mk (PyData.keyHash p (Str.ofString "__firstlineno__")) (Value.str (Str.ofString "__firstlineno__") 207) (Value.int 5 206), DictEntry.mk (PyData.keyHash p (Str.ofString "__init__")) (Value.str (Str.ofString "__init__") 214) (Value.ref 35), DictEntry.mk (PyData.keyHash p (Str.ofString "set_current")) (Value.str (Str.ofString "set_current") 222) (Value.ref 42), DictEntry.mk (PyData.keyHash p (Str.ofString "get_current")) (Value.str (Str.ofString "get_current") 229) (Value.ref 49), DictEntry.mk (PyData.keyHash p (Str.ofString "copy_from")) (Value.str (Str.ofString "copy_from") 237) (Value.ref 56), DictEntry.mk (PyData.keyHash p (Str.ofString "in_grouping")) (Value.str (Str.ofString "in_grouping") 245) (Value.ref 63), DictEntry.mk (PyData.keyHash p (Str.ofString "go_in_grouping")) (Value.str (Str.ofString "go_in_grouping") 253) (Value.ref 70), DictEntry.mk (PyData.keyHash p (Str.ofString "in_grouping_b")) (Value.str (Str.ofString "in_grouping_b") 261) (Value.ref 77), DictEntry.mk (PyData.keyHash p (Str.ofString "go_in_grouping_b")) (Value.str (Str.ofString "go_in_grouping_b") 269) (Value.ref 84), DictEntry.mk (PyData.keyHash p (Str.ofString "out_grouping")) (Value.str (Str.ofString "out_grouping") 277) (Value.ref 91), DictEntry.mk (PyData.keyHash p (Str.ofString "go_out_grouping")) (Value.str (Str.ofString "go_out_grouping") 285) (Value.ref 98), DictEntry.mk (PyData.keyHash p (Str.ofString "out_grouping_b")) (Value.str (Str.ofString "out_grouping_b") 293) (Value.ref 105), DictEntry.mk (PyData.keyHash p (Str.ofString "go_out_grouping_b")) (Value.str (Str.ofString "go_out_grouping_b") 301) (Value.ref 112), DictEntry.mk (PyData.keyHash p (Str.ofString "eq_s")) (Value.str (Str.ofString "eq_s") 309) (Value.ref 119), DictEntry.mk (PyData.keyHash p (Str.ofString "eq_s_b")) (Value.str (Str.ofString "eq_s_b") 317) (Value.ref 126), DictEntry.mk (PyData.keyHash p (Str.ofString "find_among")) (Value.str (Str.ofString "find_among") 337) (Value.ref 133), DictEntry.mk (PyData.keyHash p (Str.ofString "find_among_b")) (Value.str (Str.ofString "find_among_b") 357) (Value.ref 140), DictEntry.mk (PyData.keyHash p (Str.ofString "replace_s")) (Value.str (Str.ofString "replace_s") 368) (Value.ref 147), DictEntry.mk (PyData.keyHash p (Str.ofString "slice_from")) (Value.str (Str.ofString "slice_from") 376) (Value.ref 154), DictEntry.mk (PyData.keyHash p (Str.ofString "slice_del")) (Value.str (Str.ofString "slice_del") 383) (Value.ref 161), DictEntry.mk (PyData.keyHash p (Str.ofString "insert")) (Value.str (Str.ofString "insert") 393) (Value.ref 168), DictEntry.mk (PyData.keyHash p (Str.ofString "slice_to")) (Value.str (Str.ofString "slice_to") 400) (Value.ref 175), DictEntry.mk (PyData.keyHash p (Str.ofString "assign_to")) (Value.str (Str.ofString "assign_to") 407) (Value.ref 182), DictEntry.mk (PyData.keyHash p (Str.ofString "stemWord")) (Value.str (Str.ofString "stemWord") 415) (Value.ref 189), DictEntry.mk (PyData.keyHash p (Str.ofString "stemWords")) (Value.str (Str.ofString "stemWords") 423) (Value.ref 196), DictEntry.mk (PyData.keyHash p (Str.ofString "__static_attributes__")) (Value.str (Str.ofString "__static_attributes__") 430) (Value.ref 197)] 28) #[]
noncomputable def o25_0 (p : Params) : Obj := Obj.mk (Value.type "tuple") Option.none (Data.seq #[]) #[]
noncomputable def o26_0 (p : Params) : Obj := Obj.mk Value.none Option.none (Data.fields #[Value.int 7 0, Value.int 4 0, Value.ref 34, Value.int 10 0, Value.int 4 0, Value.ref 41, Value.int 18 0, Value.int 4 0, Value.ref 48, Value.int 21 0, Value.int 4 0, Value.ref 55, Value.int 24 0, Value.int 4 0, Value.ref 62, Value.int 32 0, Value.int 4 0, Value.ref 69, Value.int 35 0, Value.int 4 0, Value.ref 76, Value.int 38 0, Value.int 4 0, Value.ref 83, Value.int 41 0, Value.int 4 0, Value.ref 90, Value.int 49 0, Value.int 4 0, Value.ref 97, Value.int 56 0, Value.int 4 0, Value.ref 104, Value.int 59 0, Value.int 4 0, Value.ref 111, Value.int 62 0, Value.int 4 0, Value.ref 118, Value.int 68 0, Value.int 4 0, Value.ref 125, Value.int 71 0, Value.int 4 0, Value.ref 132, Value.int 116 0, Value.int 4 0, Value.ref 139, Value.int 161 0, Value.int 4 0, Value.ref 146, Value.int 171 0, Value.int 4 0, Value.ref 153, Value.int 179 0, Value.int 4 0, Value.ref 160, Value.int 182 0, Value.int 4 0, Value.ref 167, Value.int 185 0, Value.int 4 0, Value.ref 174, Value.int 188 0, Value.int 4 0, Value.ref 181, Value.int 191 0, Value.int 4 0, Value.ref 188, Value.int 196 0, Value.int 4 0, Value.ref 195]) #[]
noncomputable def o27_0 (p : Params) : Obj := Obj.mk (Value.type "code") Option.none (Data.fields #[Value.str (Str.ofString "BaseStemmer") 198, Value.str (Str.ofString "BaseStemmer") 199, Value.str (Str.ofString "/claim/cut.py") 200, Value.int 5 0, Value.int 0 0, Value.int 0 0, Value.int 0 0, Value.int 0 0, Value.ref 25, Value.bool Bool.false, Value.int 181 0, Value.ref 26, Value.none, Value.none, Value.none, Value.none, Value.int 201 0, Value.int 5 0, Value.str (Str.ofString "/claim/cut.py") 202]) #[]
noncomputable def o28_0 (p : Params) : Obj := Obj.mk (Value.type "frame") Option.none Data.plain #[Option.some (Value.ref 27), Option.some (Value.ref 3), Option.some (Value.ref 24), Option.none, Option.some (Value.str (Str.ofString "snowballstemmer.basestemmer") 194), Option.none, Option.some (Value.ref 0)]
noncomputable def o29_0 (p : Params) : Obj := Obj.mk (Value.type "tuple") Option.none (Data.seq #[]) #[]
noncomputable def o30_0 (p : Params) : Obj := Obj.mk Value.none Option.none (Data.fields #[]) #[]
noncomputable def o31_0 (p : Params) : Obj := Obj.mk (Value.type "tuple") Option.none (Data.seq #[Value.str (Str.ofString "self") 211]) #[]
noncomputable def o32_0 (p : Params) : Obj := Obj.mk (Value.type "tuple") Option.none (Data.seq #[]) #[]
noncomputable def o33_0 (p : Params) : Obj := Obj.mk Value.none Option.none (Data.func (FuncData.mk (Str.ofString "__init__") (Str.ofString "BaseStemmer.__init__") (fnP (mSt 2 0)) (FuncBody.stmts (fnB (mSt 2 0))) (fnS (mSt 2 0)) 0 [] Value.none Value.none Value.none Value.none Option.none Value.none Value.none 0)) #[]
noncomputable def o34_0 (p : Params) : Obj := Obj.mk (Value.type "code") Option.none (Data.fields #[Value.str (Str.ofString "__init__") 208, Value.str (Str.ofString "BaseStemmer.__init__") 209, Value.str (Str.ofString "/claim/cut.py") 210, Value.int 7 0, Value.int 1 0, Value.int 0 0, Value.int 0 0, Value.int 3 0, Value.ref 29, Value.bool Bool.true, Value.int 181 0, Value.ref 30, Value.none, Value.ref 31, Value.ref 32, Value.ref 33, Value.int 212 0, Value.int 7 0, Value.str (Str.ofString "/claim/cut.py") 213]) #[]
noncomputable def o35_0 (p : Params) : Obj := Obj.mk (Value.type "function") Option.none (Data.func (FuncData.mk (Str.ofString "__init__") (Str.ofString "BaseStemmer.__init__") (fnP (mSt 2 0)) (FuncBody.stmts (fnB (mSt 2 0))) (fnS (mSt 2 0)) 3 [] Value.none Value.none Value.none (Value.str (Str.ofString "snowballstemmer.basestemmer") 194) Option.none (Value.ref 34) Value.none 0)) #[]
noncomputable def o36_0 (p : Params) : Obj := Obj.mk (Value.type "tuple") Option.none (Data.seq #[]) #[]
noncomputable def o37_0 (p : Params) : Obj := Obj.mk Value.none Option.none (Data.fields #[]) #[]
noncomputable def o38_0 (p : Params) : Obj := Obj.mk (Value.type "tuple") Option.none (Data.seq #[Value.str (Str.ofString "self") 218, Value.str (Str.ofString "value") 219]) #[]
noncomputable def o39_0 (p : Params) : Obj := Obj.mk (Value.type "tuple") Option.none (Data.seq #[]) #[]
noncomputable def o40_0 (p : Params) : Obj := Obj.mk Value.none Option.none (Data.func (FuncData.mk (Str.ofString "set_current") (Str.ofString "BaseStemmer.set_current") (fnP (mSt 2 1)) (FuncBody.stmts (fnB (mSt 2 1))) (fnS (mSt 2 1)) 0 [] Value.none Value.none Value.none Value.none Option.none Value.none Value.none 0)) #[]
noncomputable def o41_0 (p : Params) : Obj := Obj.mk (Value.type "code") Option.none (Data.fields #[Value.str (Str.ofString "set_current") 215, Value.str (Str.ofString "BaseStemmer.set_current") 216, Value.str (Str.ofString "/claim/cut.py") 217, Value.int 10 0, Value.int 2 0, Value.int 0 0, Value.int 0 0, Value.int 3 0, Value.ref 36, Value.bool Bool.true, Value.int 181 0, Value.ref 37, Value.none, Value.ref 38, Value.ref 39, Value.ref 40, Value.int 220 0, Value.int 10 0, Value.str (Str.ofString "/claim/cut.py") 221]) #[]
noncomputable def o42_0 (p : Params) : Obj := Obj.mk (Value.type "function") Option.none (Data.func (FuncData.mk (Str.ofString "set_current") (Str.ofString "BaseStemmer.set_current") (fnP (mSt 2 1)) (FuncBody.stmts (fnB (mSt 2 1))) (fnS (mSt 2 1)) 3 [] Value.none Value.none Value.none (Value.str (Str.ofString "snowballstemmer.basestemmer") 194) Option.none (Value.ref 41) Value.none 0)) #[]
noncomputable def o43_0 (p : Params) : Obj := Obj.mk (Value.type "tuple") Option.none (Data.seq #[]) #[]
noncomputable def o44_0 (p : Params) : Obj := Obj.mk Value.none Option.none (Data.fields #[]) #[]
noncomputable def o45_0 (p : Params) : Obj := Obj.mk (Value.type "tuple") Option.none (Data.seq #[Value.str (Str.ofString "self") 226]) #[]
noncomputable def o46_0 (p : Params) : Obj := Obj.mk (Value.type "tuple") Option.none (Data.seq #[]) #[]
noncomputable def o47_0 (p : Params) : Obj := Obj.mk Value.none Option.none (Data.func (FuncData.mk (Str.ofString "get_current") (Str.ofString "BaseStemmer.get_current") (fnP (mSt 2 2)) (FuncBody.stmts (fnB (mSt 2 2))) (fnS (mSt 2 0)) 0 [] Value.none Value.none Value.none Value.none Option.none Value.none Value.none 0)) #[]
noncomputable def o48_0 (p : Params) : Obj := Obj.mk (Value.type "code") Option.none (Data.fields #[Value.str (Str.ofString "get_current") 223, Value.str (Str.ofString "BaseStemmer.get_current") 224, Value.str (Str.ofString "/claim/cut.py") 225, Value.int 18 0, Value.int 1 0, Value.int 0 0, Value.int 0 0, Value.int 3 0, Value.ref 43, Value.bool Bool.true, Value.int 181 0, Value.ref 44, Value.none, Value.ref 45, Value.ref 46, Value.ref 47, Value.int 227 0, Value.int 18 0, Value.str (Str.ofString "/claim/cut.py") 228]) #[]
noncomputable def o49_0 (p : Params) : Obj := Obj.mk (Value.type "function") Option.none (Data.func (FuncData.mk (Str.ofString "get_current") (Str.ofString "BaseStemmer.get_current") (fnP (mSt 2 2)) (FuncBody.stmts (fnB (mSt 2 2))) (fnS (mSt 2 0)) 3 [] Value.none Value.none Value.none (Value.str (Str.ofString "snowballstemmer.basestemmer") 194) Option.none (Value.ref 48) Value.none 0)) #[]
noncomputable def o50_0 (p : Params) : Obj := Obj.mk (Value.type "tuple") Option.none (Data.seq #[]) #[]
noncomputable def o51_0 (p : Params) : Obj := Obj.mk Value.none Option.none (Data.fields #[]) #[]
noncomputable def o52_0 (p : Params) : Obj := Obj.mk (Value.type "tuple") Option.none (Data.seq #[Value.str (Str.ofString "self") 233, Value.str (Str.ofString "other") 234]) #[]
noncomputable def o53_0 (p : Params) : Obj := Obj.mk (Value.type "tuple") Option.none (Data.seq #[]) #[]
noncomputable def o54_0 (p : Params) : Obj := Obj.mk Value.none Option.none (Data.func (FuncData.mk (Str.ofString "copy_from") (Str.ofString "BaseStemmer.copy_from") (fnP (mSt 2 3)) (FuncBody.stmts (fnB (mSt 2 3))) (fnS (mSt 2 3)) 0 [] Value.none Value.none Value.none Value.none Option.none Value.none Value.none 0)) #[]
noncomputable def o55_0 (p : Params) : Obj := Obj.mk (Value.type "code") Option.none (Data.fields #[Value.str (Str.ofString "copy_from") 230, Value.str (Str.ofString "BaseStemmer.copy_from") 231, Value.str (Str.ofString "/claim/cut.py") 232, Value.int 21 0, Value.int 2 0, Value.int 0 0, Value.int 0 0, Value.int 3 0, Value.ref 50, Value.bool Bool.true, Value.int 181 0, Value.ref 51, Value.none, Value.ref 52, Value.ref 53, Value.ref 54, Value.int 235 0, Value.int 21 0, Value.str (Str.ofString "/claim/cut.py") 236]) #[]
noncomputable def o56_0 (p : Params) : Obj := Obj.mk (Value.type "function") Option.none (Data.func (FuncData.mk (Str.ofString "copy_from") (Str.ofString "BaseStemmer.copy_from") (fnP (mSt 2 3)) (FuncBody.stmts (fnB (mSt 2 3))) (fnS (mSt 2 3)) 3 [] Value.none Value.none Value.none (Value.str (Str.ofString "snowballstemmer.basestemmer") 194) Option.none (Value.ref 55) Value.none 0)) #[]
noncomputable def o57_0 (p : Params) : Obj := Obj.mk (Value.type "tuple") Option.none (Data.seq #[]) #[]
noncomputable def o58_0 (p : Params) : Obj := Obj.mk Value.none Option.none (Data.fields #[]) #[]
noncomputable def o59_0 (p : Params) : Obj := Obj.mk (Value.type "tuple") Option.none (Data.seq #[Value.str (Str.ofString "self") 241, Value.str (Str.ofString "s") 242]) #[]
noncomputable def o60_0 (p : Params) : Obj := Obj.mk (Value.type "tuple") Option.none (Data.seq #[]) #[]
noncomputable def o61_0 (p : Params) : Obj := Obj.mk Value.none Option.none (Data.func (FuncData.mk (Str.ofString "in_grouping") (Str.ofString "BaseStemmer.in_grouping") (fnP (mSt 2 4)) (FuncBody.stmts (fnB (mSt 2 4))) (fnS (mSt 2 4)) 0 [] Value.none Value.none Value.none Value.none Option.none Value.none Value.none 0)) #[]
noncomputable def o62_0 (p : Params) : Obj := Obj.mk (Value.type "code") Option.none (Data.fields #[Value.str (Str.ofString "in_grouping") 238, Value.str (Str.ofString "BaseStemmer.in_grouping") 239, Value.str (Str.ofString "/claim/cut.py") 240, Value.int 24 0, Value.int 2 0, Value.int 0 0, Value.int 0 0, Value.int 3 0, Value.ref 57, Value.bool Bool.true, Value.int 181 0, Value.ref 58, Value.none, Value.ref 59, Value.ref 60, Value.ref 61, Value.int 243 0, Value.int 24 0, Value.str (Str.ofString "/claim/cut.py") 244]) #[]
noncomputable def o63_0 (p : Params) : Obj := Obj.mk (Value.type "function") Option.none (Data.func (FuncData.mk (Str.ofString "in_grouping") (Str.ofString "BaseStemmer.in_grouping") (fnP (mSt 2 4)) (FuncBody.stmts (fnB (mSt 2 4))) (fnS (mSt 2 4)) 3 [] Value.none Value.none Value.none (Value.str (Str.ofString "snowballstemmer.basestemmer") 194) Option.none (Value.ref 62) Value.none 0)) #[]
noncomputable def o64_0 (p : Params) : Obj := Obj.mk (Value.type "tuple") Option.none (Data.seq #[]) #[]
noncomputable def o65_0 (p : Params) : Obj := Obj.mk Value.none Option.none (Data.fields #[]) #[]
noncomputable def o66_0 (p : Params) : Obj := Obj.mk (Value.type "tuple") Option.none (Data.seq #[Value.str (Str.ofString "self") 249, Value.str (Str.ofString "s") 250]) #[]
noncomputable def o67_0 (p : Params) : Obj := Obj.mk (Value.type "tuple") Option.none (Data.seq #[]) #[]
noncomputable def o68_0 (p : Params) : Obj := Obj.mk Value.none Option.none (Data.func (FuncData.mk (Str.ofString "go_in_grouping") (Str.ofString "BaseStemmer.go_in_grouping") (fnP (mSt 2 5)) (FuncBody.stmts (fnB (mSt 2 5))) (fnS (mSt 2 5)) 0 [] Value.none Value.none Value.none Value.none Option.none Value.none Value.none 0)) #[]
noncomputable def o69_0 (p : Params) : Obj := Obj.mk (Value.type "code") Option.none (Data.fields #[Value.str (Str.ofString "go_in_grouping") 246, Value.str (Str.ofString "BaseStemmer.go_in_grouping") 247, Value.str (Str.ofString "/claim/cut.py") 248, Value.int 32 0, Value.int 2 0, Value.int 0 0, Value.int 0 0, Value.int 3 0, Value.ref 64, Value.bool Bool.true, Value.int 181 0, Value.ref 65, Value.none, Value.ref 66, Value.ref 67, Value.ref 68, Value.int 251 0, Value.int 32 0, Value.str (Str.ofString "/claim/cut.py") 252]) #[]
noncomputable def o70_0 (p : Params) : Obj := Obj.mk (Value.type "function") Option.none (Data.func (FuncData.mk (Str.ofString "go_in_grouping") (Str.ofString "BaseStemmer.go_in_grouping") (fnP (mSt 2 5)) (FuncBody.stmts (fnB (mSt 2 5))) (fnS (mSt 2 5)) 3 [] Value.none Value.none Value.none (Value.str (Str.ofString "snowballstemmer.basestemmer") 194) Option.none (Value.ref 69) Value.none 0)) #[]
noncomputable def o71_0 (p : Params) : Obj := Obj.mk (Value.type "tuple") Option.none (Data.seq #[]) #[]
noncomputable def o72_0 (p : Params) : Obj := Obj.mk Value.none Option.none (Data.fields #[]) #[]
noncomputable def o73_0 (p : Params) : Obj := Obj.mk (Value.type "tuple") Option.none (Data.seq #[Value.str (Str.ofString "self") 257, Value.str (Str.ofString "s") 258]) #[]
noncomputable def o74_0 (p : Params) : Obj := Obj.mk (Value.type "tuple") Option.none (Data.seq #[]) #[]
noncomputable def o75_0 (p : Params) : Obj := Obj.mk Value.none Option.none (Data.func (FuncData.mk (Str.ofString "in_grouping_b") (Str.ofString "BaseStemmer.in_grouping_b") (fnP (mSt 2 6)) (FuncBody.stmts (fnB (mSt 2 6))) (fnS (mSt 2 5)) 0 [] Value.none Value.none Value.none Value.none Option.none Value.none Value.none 0)) #[]
noncomputable def o76_0 (p : Params) : Obj := Obj.mk (Value.type "code") Option.none (Data.fields #[Value.str (Str.ofString "in_grouping_b") 254, Value.str (Str.ofString "BaseStemmer.in_grouping_b") 255, Value.str (Str.ofString "/claim/cut.py") 256, Value.int 35 0, Value.int 2 0, Value.int 0 0, Value.int 0 0, Value.int 3 0, Value.ref 71, Value.bool Bool.true, Value.int 181 0, Value.ref 72, Value.none, Value.ref 73, Value.ref 74, Value.ref 75, Value.int 259 0, Value.int 35 0, Value.str (Str.ofString "/claim/cut.py") 260]) #[]
noncomputable def o77_0 (p : Params) : Obj := Obj.mk (Value.type "function") Option.none (Data.func (FuncData.mk (Str.ofString "in_grouping_b") (Str.ofString "BaseStemmer.in_grouping_b") (fnP (mSt 2 6)) (FuncBody.stmts (fnB (mSt 2 6))) (fnS (mSt 2 5)) 3 [] Value.none Value.none Value.none (Value.str (Str.ofString "snowballstemmer.basestemmer") 194) Option.none (Value.ref 76) Value.none 0)) #[]
noncomputable def o78_0 (p : Params) : Obj := Obj.mk (Value.type "tuple") Option.none (Data.seq #[]) #[]
noncomputable def o79_0 (p : Params) : Obj := Obj.mk Value.none Option.none (Data.fields #[]) #[]
noncomputable def o80_0 (p : Params) : Obj := Obj.mk (Value.type "tuple") Option.none (Data.seq #[Value.str (Str.ofString "self") 265, Value.str (Str.ofString "s") 266]) #[]
noncomputable def o81_0 (p : Params) : Obj := Obj.mk (Value.type "tuple") Option.none (Data.seq #[]) #[]
noncomputable def o82_0 (p : Params) : Obj := Obj.mk Value.none Option.none (Data.func (FuncData.mk (Str.ofString "go_in_grouping_b") (Str.ofString "BaseStemmer.go_in_grouping_b") (fnP (mSt 2 7)) (FuncBody.stmts (fnB (mSt 2 7))) (fnS (mSt 2 5)) 0 [] Value.none Value.none Value.none Value.none Option.none Value.none Value.none 0)) #[]
noncomputable def o83_0 (p : Params) : Obj := Obj.mk (Value.type "code") Option.none (Data.fields #[Value.str (Str.ofString "go_in_grouping_b") 262, Value.str (Str.ofString "BaseStemmer.go_in_grouping_b") 263, Value.str (Str.ofString "/claim/cut.py") 264, Value.int 38 0, Value.int 2 0, Value.int 0 0, Value.int 0 0, Value.int 3 0, Value.ref 78, Value.bool Bool.true, Value.int 181 0, Value.ref 79, Value.none, Value.ref 80, Value.ref 81, Value.ref 82, Value.int 267 0, Value.int 38 0, Value.str (Str.ofString "/claim/cut.py") 268]) #[]
noncomputable def o84_0 (p : Params) : Obj := Obj.mk (Value.type "function") Option.none (Data.func (FuncData.mk (Str.ofString "go_in_grouping_b") (Str.ofString "BaseStemmer.go_in_grouping_b") (fnP (mSt 2 7)) (FuncBody.stmts (fnB (mSt 2 7))) (fnS (mSt 2 5)) 3 [] Value.none Value.none Value.none (Value.str (Str.ofString "snowballstemmer.basestemmer") 194) Option.none (Value.ref 83) Value.none 0)) #[]
noncomputable def o85_0 (p : Params) : Obj := Obj.mk (Value.type "tuple") Option.none (Data.seq #[]) #[]
noncomputable def o86_0 (p : Params) : Obj := Obj.mk Value.none Option.none (Data.fields #[]) #[]
noncomputable def o87_0 (p : Params) : Obj := Obj.mk (Value.type "tuple") Option.none (Data.seq #[Value.str (Str.ofString "self") 273, Value.str (Str.ofString "s") 274]) #[]
noncomputable def o88_0 (p : Params) : Obj := Obj.mk (Value.type "tuple") Option.none (Data.seq #[]) #[]
noncomputable def o89_0 (p : Params) : Obj := Obj.mk Value.none Option.none (Data.func (FuncData.mk (Str.ofString "out_grouping") (Str.ofString "BaseStemmer.out_grouping") (fnP (mSt 2 8)) (FuncBody.stmts (fnB (mSt 2 8))) (fnS (mSt 2 4)) 0 [] Value.none Value.none Value.none Value.none Option.none Value.none Value.none 0)) #[]
noncomputable def o90_0 (p : Params) : Obj := Obj.mk (Value.type "code") Option.none (Data.fields #[Value.str (Str.ofString "out_grouping") 270, Value.str (Str.ofString "BaseStemmer.out_grouping") 271, Value.str (Str.ofString "/claim/cut.py") 272, Value.int 41 0, Value.int 2 0, Value.int 0 0, Value.int 0 0, Value.int 3 0, Value.ref 85, Value.bool Bool.true, Value.int 181 0, Value.ref 86, Value.none, Value.ref 87, Value.ref 88, Value.ref 89, Value.int 275 0, Value.int 41 0, Value.str (Str.ofString "/claim/cut.py") 276]) #[]
noncomputable def o91_0 (p : Params) : Obj := Obj.mk (Value.type "function") Option.none (Data.func (FuncData.mk (Str.ofString "out_grouping") (Str.ofString "BaseStemmer.out_grouping") (fnP (mSt 2 8)) (FuncBody.stmts (fnB (mSt 2 8))) (fnS (mSt 2 4)) 3 [] Value.none Value.none Value.none (Value.str (Str.ofString "snowballstemmer.basestemmer") 194) Option.none (Value.ref 90) Value.none 0)) #[]
noncomputable def o92_0 (p : Params) : Obj := Obj.mk (Value.type "tuple") Option.none (Data.seq #[]) #[]
noncomputable def o93_0 (p : Params) : Obj := Obj.mk Value.none Option.none (Data.fields #[]) #[]
noncomputable def o94_0 (p : Params) : Obj := Obj.mk (Value.type "tuple") Option.none (Data.seq #[Value.str (Str.ofString "self") 281, Value.str (Str.ofString "s") 282]) #[]
noncomputable def o95_0 (p : Params) : Obj := Obj.mk (Value.type "tuple") Option.none (Data.seq #[]) #[]
noncomputable def o96_0 (p : Params) : Obj := Obj.mk Value.none Option.none (Data.func (FuncData.mk (Str.ofString "go_out_grouping") (Str.ofString "BaseStemmer.go_out_grouping") (fnP (mSt 2 9)) (FuncBody.stmts (fnB (mSt 2 9))) (fnS (mSt 2 4)) 0 [] Value.none Value.none Value.none Value.none Option.none Value.none Value.none 0)) #[]
noncomputable def o97_0 (p : Params) : Obj := Obj.mk (Value.type "code") Option.none (Data.fields #[Value.str (Str.ofString "go_out_grouping") 278, Value.str (Str.ofString "BaseStemmer.go_out_grouping") 279, Value.str (Str.ofString "/claim/cut.py") 280, Value.int 49 0, Value.int 2 0, Value.int 0 0, Value.int 0 0, Value.int 3 0, Value.ref 92, Value.bool Bool.true, Value.int 181 0, Value.ref 93, Value.none, Value.ref 94, Value.ref 95, Value.ref 96, Value.int 283 0, Value.int 49 0, Value.str (Str.ofString "/claim/cut.py") 284]) #[]
noncomputable def o98_0 (p : Params) : Obj := Obj.mk (Value.type "function") Option.none (Data.func (FuncData.mk (Str.ofString "go_out_grouping") (Str.ofString "BaseStemmer.go_out_grouping") (fnP (mSt 2 9)) (FuncBody.stmts (fnB (mSt 2 9))) (fnS (mSt 2 4)) 3 [] Value.none Value.none Value.none (Value.str (Str.ofString "snowballstemmer.basestemmer") 194) Option.none (Value.ref 97) Value.none 0)) #[]
noncomputable def o99_0 (p : Params) : Obj := Obj.mk (Value.type "tuple") Option.none (Data.seq #[]) #[]
noncomputable def o100_0 (p : Params) : Obj := Obj.mk Value.none Option.none (Data.fields #[]) #[]
noncomputable def o101_0 (p : Params) : Obj := Obj.mk (Value.type "tuple") Option.none (Data.seq #[Value.str (Str.ofString "self") 289, Value.str (Str.ofString "s") 290]) #[]
noncomputable def o102_0 (p : Params) : Obj := Obj.mk (Value.type "tuple") Option.none (Data.seq #[]) #[]
noncomputable def o103_0 (p : Params) : Obj := Obj.mk Value.none Option.none (Data.func (FuncData.mk (Str.ofString "out_grouping_b") (Str.ofString "BaseStemmer.out_grouping_b") (fnP (mSt 2 10)) (FuncBody.stmts (fnB (mSt 2 10))) (fnS (mSt 2 5)) 0 [] Value.none Value.none Value.none Value.none Option.none Value.none Value.none 0)) #[]
noncomputable def o104_0 (p : Params) : Obj := Obj.mk (Value.type "code") Option.none (Data.fields #[Value.str (Str.ofString "out_grouping_b") 286, Value.str (Str.ofString "BaseStemmer.out_grouping_b") 287, Value.str (Str.ofString "/claim/cut.py") 288, Value.int 56 0, Value.int 2 0, Value.int 0 0, Value.int 0 0, Value.int 3 0, Value.ref 99, Value.bool Bool.true, Value.int 181 0, Value.ref 100, Value.none, Value.ref 101, Value.ref 102, Value.ref 103, Value.int 291 0, Value.int 56 0, Value.str (Str.ofString "/claim/cut.py") 292]) #[]
noncomputable def o105_0 (p : Params) : Obj := Obj.mk (Value.type "function") Option.none (Data.func (FuncData.mk (Str.ofString "out_grouping_b") (Str.ofString "BaseStemmer.out_grouping_b") (fnP (mSt 2 10)) (FuncBody.stmts (fnB (mSt 2 10))) (fnS (mSt 2 5)) 3 [] Value.none Value.none Value.none (Value.str (Str.ofString "snowballstemmer.basestemmer") 194) Option.none (Value.ref 104) Value.none 0)) #[]
noncomputable def o106_0 (p : Params) : Obj := Obj.mk (Value.type "tuple") Option.none (Data.seq #[]) #[]
noncomputable def o107_0 (p : Params) : Obj := Obj.mk Value.none Option.none (Data.fields #[]) #[]
noncomputable def o108_0 (p : Params) : Obj := Obj.mk (Value.type "tuple") Option.none (Data.seq #[Value.str (Str.ofString "self") 297, Value.str (Str.ofString "s") 298]) #[]
noncomputable def o109_0 (p : Params) : Obj := Obj.mk (Value.type "tuple") Option.none (Data.seq #[]) #[]
noncomputable def o110_0 (p : Params) : Obj := Obj.mk Value.none Option.none (Data.func (FuncData.mk (Str.ofString "go_out_grouping_b") (Str.ofString "BaseStemmer.go_out_grouping_b") (fnP (mSt 2 11)) (FuncBody.stmts (fnB (mSt 2 11))) (fnS (mSt 2 5)) 0 [] Value.none Value.none Value.none Value.none Option.none Value.none Value.none 0)) #[]
noncomputable def o111_0 (p : Params) : Obj := Obj.mk (Value.type "code") Option.none (Data.fields #[Value.str (Str.ofString "go_out_grouping_b") 294, Value.str (Str.ofString "BaseStemmer.go_out_grouping_b") 295, Value.str (Str.ofString "/claim/cut.py") 296, Value.int 59 0, Value.int 2 0, Value.int 0 0, Value.int 0 0, Value.int 3 0, Value.ref 106, Value.bool Bool.true, Value.int 181 0, Value.ref 107, Value.none, Value.ref 108, Value.ref 109, Value.ref 110, Value.int 299 0, Value.int 59 0, Value.str (Str.ofString "/claim/cut.py") 300]) #[]
noncomputable def o112_0 (p : Params) : Obj := Obj.mk (Value.type "function") Option.none (Data.func (FuncData.mk (Str.ofString "go_out_grouping_b") (Str.ofString "BaseStemmer.go_out_grouping_b") (fnP (mSt 2 11)) (FuncBody.stmts (fnB (mSt 2 11))) (fnS (mSt 2 5)) 3 [] Value.none Value.none Value.none (Value.str (Str.ofString "snowballstemmer.basestemmer") 194) Option.none (Value.ref 111) Value.none 0)) #[]
noncomputable def o113_0 (p : Params) : Obj := Obj.mk (Value.type "tuple") Option.none (Data.seq #[]) #[]
noncomputable def o114_0 (p : Params) : Obj := Obj.mk Value.none Option.none (Data.fields #[]) #[]
noncomputable def o115_0 (p : Params) : Obj := Obj.mk (Value.type "tuple") Option.none (Data.seq #[Value.str (Str.ofString "self") 305, Value.str (Str.ofString "s") 306]) #[]
noncomputable def o116_0 (p : Params) : Obj := Obj.mk (Value.type "tuple") Option.none (Data.seq #[]) #[]
noncomputable def o117_0 (p : Params) : Obj := Obj.mk Value.none Option.none (Data.func (FuncData.mk (Str.ofString "eq_s") (Str.ofString "BaseStemmer.eq_s") (fnP (mSt 2 12)) (FuncBody.stmts (fnB (mSt 2 12))) (fnS (mSt 2 12)) 0 [] Value.none Value.none Value.none Value.none Option.none Value.none Value.none 0)) #[]
noncomputable def o118_0 (p : Params) : Obj := Obj.mk (Value.type "code") Option.none (Data.fields #[Value.str (Str.ofString "eq_s") 302, Value.str (Str.ofString "BaseStemmer.eq_s") 303, Value.str (Str.ofString "/claim/cut.py") 304, Value.int 62 0, Value.int 2 0, Value.int 0 0, Value.int 0 0, Value.int 3 0, Value.ref 113, Value.bool Bool.true, Value.int 181 0, Value.ref 114, Value.none, Value.ref 115, Value.ref 116, Value.ref 117, Value.int 307 0, Value.int 62 0, Value.str (Str.ofString "/claim/cut.py") 308]) #[]
noncomputable def o119_0 (p : Params) : Obj := Obj.mk (Value.type "function") Option.none (Data.func (FuncData.mk (Str.ofString "eq_s") (Str.ofString "BaseStemmer.eq_s") (fnP (mSt 2 12)) (FuncBody.stmts (fnB (mSt 2 12))) (fnS (mSt 2 12)) 3 [] Value.none Value.none Value.none (Value.str (Str.ofString "snowballstemmer.basestemmer") 194) Option.none (Value.ref 118) Value.none 0)) #[]
noncomputable def o120_0 (p : Params) : Obj := Obj.mk (Value.type "tuple") Option.none (Data.seq #[]) #[]
noncomputable def o121_0 (p : Params) : Obj := Obj.mk Value.none Option.none (Data.fields #[]) #[]
noncomputable def o122_0 (p : Params) : Obj := Obj.mk (Value.type "tuple") Option.none (Data.seq #[Value.str (Str.ofString "self") 313, Value.str (Str.ofString "s") 314]) #[]
noncomputable def o123_0 (p : Params) : Obj := Obj.mk (Value.type "tuple") Option.none (Data.seq #[]) #[]
noncomputable def o124_0 (p : Params) : Obj := Obj.mk Value.none Option.none (Data.func (FuncData.mk (Str.ofString "eq_s_b") (Str.ofString "BaseStemmer.eq_s_b") (fnP (mSt 2 13)) (FuncBody.stmts (fnB (mSt 2 13))) (fnS (mSt 2 5)) 0 [] Value.none Value.none Value.none Value.none Option.none Value.none Value.none 0)) #[]
noncomputable def o125_0 (p : Params) : Obj := Obj.mk (Value.type "code") Option.none (Data.fields #[Value.str (Str.ofString "eq_s_b") 310, Value.str (Str.ofString "BaseStemmer.eq_s_b") 311, Value.str (Str.ofString "/claim/cut.py") 312, Value.int 68 0, Value.int 2 0, Value.int 0 0, Value.int 0 0, Value.int 3 0, Value.ref 120, Value.bool Bool.true, Value.int 181 0, Value.ref 121, Value.none, Value.ref 122, Value.ref 123, Value.ref 124, Value.int 315 0, Value.int 68 0, Value.str (Str.ofString "/claim/cut.py") 316]) #[]
noncomputable def o126_0 (p : Params) : Obj := Obj.mk (Value.type "function") Option.none (Data.func (FuncData.mk (Str.ofString "eq_s_b") (Str.ofString "BaseStemmer.eq_s_b") (fnP (mSt 2 13)) (FuncBody.stmts (fnB (mSt 2 13))) (fnS (mSt 2 5)) 3 [] Value.none Value.none Value.none (Value.str (Str.ofString "snowballstemmer.basestemmer") 194) Option.none (Value.ref 125) Value.none 0)) #[]
noncomputable def o127_0 (p : Params) : Obj := Obj.mk (Value.type "tuple") Option.none (Data.seq #[]) #[]
noncomputable def o128_0 (p : Params) : Obj := Obj.mk Value.none Option.none (Data.fields #[]) #[]
noncomputable def o129_0 (p : Params) : Obj := Obj.mk (Value.type "tuple") Option.none (Data.seq #[Value.str (Str.ofString "self") 321, Value.str (Str.ofString "v") 322, Value.str (Str.ofString "i") 323, Value.str (Str.ofString "j") 324, Value.str (Str.ofString "c") 325, Value.str (Str.ofString "l") 326, Value.str (Str.ofString "common_i") 327, Value.str (Str.ofString "common_j") 328, Value.str (Str.ofString "first_key_inspected") 329, Value.str (Str.ofString "k") 330, Value.str (Str.ofString "diff") 331, Value.str (Str.ofString "common") 332, Value.str (Str.ofString "w") 333, Value.str (Str.ofString "i2") 334]) #[]
noncomputable def o130_0 (p : Params) : Obj := Obj.mk (Value.type "tuple") Option.none (Data.seq #[]) #[]
noncomputable def o131_0 (p : Params) : Obj := Obj.mk Value.none Option.none (Data.func (FuncData.mk (Str.ofString "find_among") (Str.ofString "BaseStemmer.find_among") (fnP (mSt 2 14)) (FuncBody.stmts (fnB (mSt 2 14))) (fnS (mSt 2 14)) 0 [] Value.none Value.none Value.none Value.none Option.none Value.none Value.none 0)) #[]
noncomputable def o132_0 (p : Params) : Obj := Obj.mk (Value.type "code") Option.none (Data.fields #[Value.str (Str.ofString "find_among") 318, Value.str (Str.ofString "BaseStemmer.find_among") 319, Value.str (Str.ofString "/claim/cut.py") 320, Value.int 71 0, Value.int 2 0, Value.int 0 0, Value.int 0 0, Value.int 3 0, Value.ref 127, Value.bool Bool.true, Value.int 181 0, Value.ref 128, Value.none, Value.ref 129, Value.ref 130, Value.ref 131, Value.int 335 0, Value.int 71 0, Value.str (Str.ofString "/claim/cut.py") 336]) #[]
noncomputable def o133_0 (p : Params) : Obj := Obj.mk (Value.type "function") Option.none (Data.func (FuncData.mk (Str.ofString "find_among") (Str.ofString "BaseStemmer.find_among") (fnP (mSt 2 14)) (FuncBody.stmts (fnB (mSt 2 14))) (fnS (mSt 2 14)) 3 [] Value.none Value.none Value.none (Value.str (Str.ofString "snowballstemmer.basestemmer") 194) Option.none (Value.ref 132) Value.none 0)) #[]
noncomputable def o134_0 (p : Params) : Obj := Obj.mk (Value.type "tuple") Option.none (Data.seq #[]) #[]
noncomputable def o135_0 (p : Params) : Obj := Obj.mk Value.none Option.none (Data.fields #[]) #[]
noncomputable def o136_0 (p : Params) : Obj := Obj.mk (Value.type "tuple") Option.none (Data.seq #[Value.str (Str.ofString "self") 341, Value.str (Str.ofString "v") 342, Value.str (Str.ofString "i") 343, Value.str (Str.ofString "j") 344, Value.str (Str.ofString "c") 345, Value.str (Str.ofString "lb") 346, Value.str (Str.ofString "common_i") 347, Value.str (Str.ofString "common_j") 348, Value.str (Str.ofString "first_key_inspected") 349, Value.str (Str.ofString "k") 350, Value.str (Str.ofString "diff") 351, Value.str (Str.ofString "common") 352, Value.str (Str.ofString "w") 353, Value.str (Str.ofString "i2") 354]) #[]
noncomputable def o137_0 (p : Params) : Obj := Obj.mk (Value.type "tuple") Option.none (Data.seq #[]) #[]
noncomputable def o138_0 (p : Params) : Obj := Obj.mk Value.none Option.none (Data.func (FuncData.mk (Str.ofString "find_among_b") (Str.ofString "BaseStemmer.find_among_b") (fnP (mSt 2 15)) (FuncBody.stmts (fnB (mSt 2 15))) (fnS (mSt 2 15)) 0 [] Value.none Value.none Value.none Value.none Option.none Value.none Value.none 0)) #[]
noncomputable def o139_0 (p : Params) : Obj := Obj.mk (Value.type "code") Option.none (Data.fields #[Value.str (Str.ofString "find_among_b") 338, Value.str (Str.ofString "BaseStemmer.find_among_b") 339, Value.str (Str.ofString "/claim/cut.py") 340, Value.int 116 0, Value.int 2 0, Value.int 0 0, Value.int 0 0, Value.int 3 0, Value.ref 134, Value.bool Bool.true, Value.int 181 0, Value.ref 135, Value.none, Value.ref 136, Value.ref 137, Value.ref 138, Value.int 355 0, Value.int 116 0, Value.str (Str.ofString "/claim/cut.py") 356]) #[]
noncomputable def o140_0 (p : Params) : Obj := Obj.mk (Value.type "function") Option.none (Data.func (FuncData.mk (Str.ofString "find_among_b") (Str.ofString "BaseStemmer.find_among_b") (fnP (mSt 2 15)) (FuncBody.stmts (fnB (mSt 2 15))) (fnS (mSt 2 15)) 3 [] Value.none Value.none Value.none (Value.str (Str.ofString "snowballstemmer.basestemmer") 194) Option.none (Value.ref 139) Value.none 0)) #[]
noncomputable def o141_0 (p : Params) : Obj := Obj.mk (Value.type "tuple") Option.none (Data.seq #[]) #[]
noncomputable def o142_0 (p : Params) : Obj := Obj.mk Value.none Option.none (Data.fields #[]) #[]
noncomputable def o143_0 (p : Params) : Obj := Obj.mk (Value.type "tuple") Option.none (Data.seq #[Value.str (Str.ofString "self") 361, Value.str (Str.ofString "c_bra") 362, Value.str (Str.ofString "c_ket") 363, Value.str (Str.ofString "s") 364, Value.str (Str.ofString "adjustment") 365]) #[]
noncomputable def o144_0 (p : Params) : Obj := Obj.mk (Value.type "tuple") Option.none (Data.seq #[]) #[]
noncomputable def o145_0 (p : Params) : Obj := Obj.mk Value.none Option.none (Data.func (FuncData.mk (Str.ofString "replace_s") (Str.ofString "BaseStemmer.replace_s") (fnP (mSt 2 16)) (FuncBody.stmts (fnB (mSt 2 16))) (fnS (mSt 2 16)) 0 [] Value.none Value.none Value.none Value.none Option.none Value.none Value.none 0)) #[]
noncomputable def o146_0 (p : Params) : Obj := Obj.mk (Value.type "code") Option.none (Data.fields #[Value.str (Str.ofString "replace_s") 358, Value.str (Str.ofString "BaseStemmer.replace_s") 359, Value.str (Str.ofString "/claim/cut.py") 360, Value.int 161 0, Value.int 4 0, Value.int 0 0, Value.int 0 0, Value.int 3 0, Value.ref 141, Value.bool Bool.true, Value.int 181 0, Value.ref 142, Value.none, Value.ref 143, Value.ref 144, Value.ref 145, Value.int 366 0, Value.int 161 0, Value.str (Str.ofString "/claim/cut.py") 367]) #[]
noncomputable def o147_0 (p : Params) : Obj := Obj.mk (Value.type "function") Option.none (Data.func (FuncData.mk (Str.ofString "replace_s") (Str.ofString "BaseStemmer.replace_s") (fnP (mSt 2 16)) (FuncBody.stmts (fnB (mSt 2 16))) (fnS (mSt 2 16)) 3 [] Value.none Value.none Value.none (Value.str (Str.ofString "snowballstemmer.basestemmer") 194) Option.none (Value.ref 146) Value.none 0)) #[]
noncomputable def o148_0 (p : Params) : Obj := Obj.mk (Value.type "tuple") Option.none (Data.seq #[]) #[]
noncomputable def o149_0 (p : Params) : Obj := Obj.mk Value.none Option.none (Data.fields #[]) #[]
noncomputable def o150_0 (p : Params) : Obj := Obj.mk (Value.type "tuple") Option.none (Data.seq #[Value.str (Str.ofString "self") 372, Value.str (Str.ofString "s") 373]) #[]
noncomputable def o151_0 (p : Params) : Obj := Obj.mk (Value.type "tuple") Option.none (Data.seq #[]) #[]
noncomputable def o152_0 (p : Params) : Obj := Obj.mk Value.none Option.none (Data.func (FuncData.mk (Str.ofString "slice_from") (Str.ofString "BaseStemmer.slice_from") (fnP (mSt 2 17)) (FuncBody.stmts (fnB (mSt 2 17))) (fnS (mSt 2 12)) 0 [] Value.none Value.none Value.none Value.none Option.none Value.none Value.none 0)) #[]
noncomputable def o153_0 (p : Params) : Obj := Obj.mk (Value.type "code") Option.none (Data.fields #[Value.str (Str.ofString "slice_from") 369, Value.str (Str.ofString "BaseStemmer.slice_from") 370, Value.str (Str.ofString "/claim/cut.py") 371, Value.int 171 0, Value.int 2 0, Value.int 0 0, Value.int 0 0, Value.int 3 0, Value.ref 148, Value.bool Bool.true, Value.int 181 0, Value.ref 149, Value.none, Value.ref 150, Value.ref 151, Value.ref 152, Value.int 374 0, Value.int 171 0, Value.str (Str.ofString "/claim/cut.py") 375]) #[]
noncomputable def o154_0 (p : Params) : Obj := Obj.mk (Value.type "function") Option.none (Data.func (FuncData.mk (Str.ofString "slice_from") (Str.ofString "BaseStemmer.slice_from") (fnP (mSt 2 17)) (FuncBody.stmts (fnB (mSt 2 17))) (fnS (mSt 2 12)) 3 [] Value.none Value.none Value.none (Value.str (Str.ofString "snowballstemmer.basestemmer") 194) Option.none (Value.ref 153) Value.none 0)) #[]
noncomputable def o155_0 (p : Params) : Obj := Obj.mk (Value.type "tuple") Option.none (Data.seq #[]) #[]
noncomputable def o156_0 (p : Params) : Obj := Obj.mk Value.none Option.none (Data.fields #[]) #[]
noncomputable def o157_0 (p : Params) : Obj := Obj.mk (Value.type "tuple") Option.none (Data.seq #[Value.str (Str.ofString "self") 380]) #[]
noncomputable def o158_0 (p : Params) : Obj := Obj.mk (Value.type "tuple") Option.none (Data.seq #[]) #[]
noncomputable def o159_0 (p : Params) : Obj := Obj.mk Value.none Option.none (Data.func (FuncData.mk (Str.ofString "slice_del") (Str.ofString "BaseStemmer.slice_del") (fnP (mSt 2 18)) (FuncBody.stmts (fnB (mSt 2 18))) (fnS (mSt 2 0)) 0 [] Value.none Value.none Value.none Value.none Option.none Value.none Value.none 0)) #[]
noncomputable def o160_0 (p : Params) : Obj := Obj.mk (Value.type "code") Option.none (Data.fields #[Value.str (Str.ofString "slice_del") 377, Value.str (Str.ofString "BaseStemmer.slice_del") 378, Value.str (Str.ofString "/claim/cut.py") 379, Value.int 179 0, Value.int 1 0, Value.int 0 0, Value.int 0 0, Value.int 3 0, Value.ref 155, Value.bool Bool.true, Value.int 181 0, Value.ref 156, Value.none, Value.ref 157, Value.ref 158, Value.ref 159, Value.int 381 0, Value.int 179 0, Value.str (Str.ofString "/claim/cut.py") 382]) #[]
noncomputable def o161_0 (p : Params) : Obj := Obj.mk (Value.type "function") Option.none (Data.func (FuncData.mk (Str.ofString "slice_del") (Str.ofString "BaseStemmer.slice_del") (fnP (mSt 2 18)) (FuncBody.stmts (fnB (mSt 2 18))) (fnS (mSt 2 0)) 3 [] Value.none Value.none Value.none (Value.str (Str.ofString "snowballstemmer.basestemmer") 194) Option.none (Value.ref 160) Value.none 0)) #[]
noncomputable def o162_0 (p : Params) : Obj := Obj.mk (Value.type "tuple") Option.none (Data.seq #[]) #[]
noncomputable def o163_0 (p : Params) : Obj := Obj.mk Value.none Option.none (Data.fields #[]) #[]
noncomputable def o164_0 (p : Params) : Obj := Obj.mk (Value.type "tuple") Option.none (Data.seq #[Value.str (Str.ofString "self") 387, Value.str (Str.ofString "c_bra") 388, Value.str (Str.ofString "c_ket") 389, Value.str (Str.ofString "s") 390]) #[]
noncomputable def o165_0 (p : Params) : Obj := Obj.mk (Value.type "tuple") Option.none (Data.seq #[]) #[]
noncomputable def o166_0 (p : Params) : Obj := Obj.mk Value.none Option.none (Data.func (FuncData.mk (Str.ofString "insert") (Str.ofString "BaseStemmer.insert") (fnP (mSt 2 19)) (FuncBody.stmts (fnB (mSt 2 19))) (fnS (mSt 2 19)) 0 [] Value.none Value.none Value.none Value.none Option.none Value.none Value.none 0)) #[]
noncomputable def o167_0 (p : Params) : Obj := Obj.mk (Value.type "code") Option.none (Data.fields #[Value.str (Str.ofString "insert") 384, Value.str (Str.ofString "BaseStemmer.insert") 385, Value.str (Str.ofString "/claim/cut.py") 386, Value.int 182 0, Value.int 4 0, Value.int 0 0, Value.int 0 0, Value.int 3 0, Value.ref 162, Value.bool Bool.true, Value.int 181 0, Value.ref 163, Value.none, Value.ref 164, Value.ref 165, Value.ref 166, Value.int 391 0, Value.int 182 0, Value.str (Str.ofString "/claim/cut.py") 392]) #[]
noncomputable def o168_0 (p : Params) : Obj := Obj.mk (Value.type "function") Option.none (Data.func (FuncData.mk (Str.ofString "insert") (Str.ofString "BaseStemmer.insert") (fnP (mSt 2 19)) (FuncBody.stmts (fnB (mSt 2 19))) (fnS (mSt 2 19)) 3 [] Value.none Value.none Value.none (Value.str (Str.ofString "snowballstemmer.basestemmer") 194) Option.none (Value.ref 167) Value.none 0)) #[]
noncomputable def o169_0 (p : Params) : Obj := Obj.mk (Value.type "tuple") Option.none (Data.seq #[]) #[]
noncomputable def o170_0 (p : Params) : Obj := Obj.mk Value.none Option.none (Data.fields #[]) #[]
noncomputable def o171_0 (p : Params) : Obj := Obj.mk (Value.type "tuple") Option.none (Data.seq #[Value.str (Str.ofString "self") 397]) #[]
noncomputable def o172_0 (p : Params) : Obj := Obj.mk (Value.type "tuple") Option.none (Data.seq #[]) #[]
noncomputable def o173_0 (p : Params) : Obj := Obj.mk Value.none Option.none (Data.func (FuncData.mk (Str.ofString "slice_to") (Str.ofString "BaseStemmer.slice_to") (fnP (mSt 2 20)) (FuncBody.stmts (fnB (mSt 2 20))) (fnS (mSt 2 20)) 0 [] Value.none Value.none Value.none Value.none Option.none Value.none Value.none 0)) #[]
noncomputable def o174_0 (p : Params) : Obj := Obj.mk (Value.type "code") Option.none (Data.fields #[Value.str (Str.ofString "slice_to") 394, Value.str (Str.ofString "BaseStemmer.slice_to") 395, Value.str (Str.ofString "/claim/cut.py") 396, Value.int 185 0, Value.int 1 0, Value.int 0 0, Value.int 0 0, Value.int 3 0, Value.ref 169, Value.bool Bool.true, Value.int 181 0, Value.ref 170, Value.none, Value.ref 171, Value.ref 172, Value.ref 173, Value.int 398 0, Value.int 185 0, Value.str (Str.ofString "/claim/cut.py") 399]) #[]
noncomputable def o175_0 (p : Params) : Obj := Obj.mk (Value.type "function") Option.none (Data.func (FuncData.mk (Str.ofString "slice_to") (Str.ofString "BaseStemmer.slice_to") (fnP (mSt 2 20)) (FuncBody.stmts (fnB (mSt 2 20))) (fnS (mSt 2 20)) 3 [] Value.none Value.none Value.none (Value.str (Str.ofString "snowballstemmer.basestemmer") 194) Option.none (Value.ref 174) Value.none 0)) #[]
noncomputable def o176_0 (p : Params) : Obj := Obj.mk (Value.type "tuple") Option.none (Data.seq #[]) #[]
noncomputable def o177_0 (p : Params) : Obj := Obj.mk Value.none Option.none (Data.fields #[]) #[]
noncomputable def o178_0 (p : Params) : Obj := Obj.mk (Value.type "tuple") Option.none (Data.seq #[Value.str (Str.ofString "self") 404]) #[]
noncomputable def o179_0 (p : Params) : Obj := Obj.mk (Value.type "tuple") Option.none (Data.seq #[]) #[]
noncomputable def o180_0 (p : Params) : Obj := Obj.mk Value.none Option.none (Data.func (FuncData.mk (Str.ofString "assign_to") (Str.ofString "BaseStemmer.assign_to") (fnP (mSt 2 21)) (FuncBody.stmts (fnB (mSt 2 21))) (fnS (mSt 2 20)) 0 [] Value.none Value.none Value.none Value.none Option.none Value.none Value.none 0)) #[]
noncomputable def o181_0 (p : Params) : Obj := Obj.mk (Value.type "code") Option.none (Data.fields #[Value.str (Str.ofString "assign_to") 401, Value.str (Str.ofString "BaseStemmer.assign_to") 402, Value.str (Str.ofString "/claim/cut.py") 403, Value.int 188 0, Value.int 1 0, Value.int 0 0, Value.int 0 0, Value.int 3 0, Value.ref 176, Value.bool Bool.true, Value.int 181 0, Value.ref 177, Value.none, Value.ref 178, Value.ref 179, Value.ref 180, Value.int 405 0, Value.int 188 0, Value.str (Str.ofString "/claim/cut.py") 406]) #[]
noncomputable def o182_0 (p : Params) : Obj := Obj.mk (Value.type "function") Option.none (Data.func (FuncData.mk (Str.ofString "assign_to") (Str.ofString "BaseStemmer.assign_to") (fnP (mSt 2 21)) (FuncBody.stmts (fnB (mSt 2 21))) (fnS (mSt 2 20)) 3 [] Value.none Value.none Value.none (Value.str (Str.ofString "snowballstemmer.basestemmer") 194) Option.none (Value.ref 181) Value.none 0)) #[]
noncomputable def o183_0 (p : Params) : Obj := Obj.mk (Value.type "tuple") Option.none (Data.seq #[]) #[]
noncomputable def o184_0 (p : Params) : Obj := Obj.mk Value.none Option.none (Data.fields #[]) #[]
noncomputable def o185_0 (p : Params) : Obj := Obj.mk (Value.type "tuple") Option.none (Data.seq #[Value.str (Str.ofString "self") 411, Value.str (Str.ofString "word") 412]) #[]
noncomputable def o186_0 (p : Params) : Obj := Obj.mk (Value.type "tuple") Option.none (Data.seq #[]) #[]
noncomputable def o187_0 (p : Params) : Obj := Obj.mk Value.none Option.none (Data.func (FuncData.mk (Str.ofString "stemWord") (Str.ofString "BaseStemmer.stemWord") (fnP (mSt 2 22)) (FuncBody.stmts (fnB (mSt 2 22))) (fnS (mSt 2 22)) 0 [] Value.none Value.none Value.none Value.none Option.none Value.none Value.none 0)) #[]
noncomputable def o188_0 (p : Params) : Obj := Obj.mk (Value.type "code") Option.none (Data.fields #[Value.str (Str.ofString "stemWord") 408, Value.str (Str.ofString "BaseStemmer.stemWord") 409, Value.str (Str.ofString "/claim/cut.py") 410, Value.int 191 0, Value.int 2 0, Value.int 0 0, Value.int 0 0, Value.int 3 0, Value.ref 183, Value.bool Bool.true, Value.int 181 0, Value.ref 184, Value.none, Value.ref 185, Value.ref 186, Value.ref 187, Value.int 413 0, Value.int 191 0, Value.str (Str.ofString "/claim/cut.py") 414]) #[]
noncomputable def o189_0 (p : Params) : Obj := Obj.mk (Value.type "function") Option.none (Data.func (FuncData.mk (Str.ofString "stemWord") (Str.ofString "BaseStemmer.stemWord") (fnP (mSt 2 22)) (FuncBody.stmts (fnB (mSt 2 22))) (fnS (mSt 2 22)) 3 [] Value.none Value.none Value.none (Value.str (Str.ofString "snowballstemmer.basestemmer") 194) Option.none (Value.ref 188) Value.none 0)) #[]
noncomputable def o190_0 (p : Params) : Obj := Obj.mk (Value.type "tuple") Option.none (Data.seq #[]) #[]
noncomputable def o191_0 (p : Params) : Obj := Obj.mk Value.none Option.none (Data.fields #[]) #[]
noncomputable def o192_0 (p : Params) : Obj := Obj.mk (Value.type "tuple") Option.none (Data.seq #[Value.str (Str.ofString "self") 419, Value.str (Str.ofString "words") 420]) #[]
noncomputable def o193_0 (p : Params) : Obj := Obj.mk (Value.type "tuple") Option.none (Data.seq #[]) #[]
noncomputable def o194_0 (p : Params) : Obj := Obj.mk Value.none Option.none (Data.func (FuncData.mk (Str.ofString "stemWords") (Str.ofString "BaseStemmer.stemWords") (fnP (mSt 2 23)) (FuncBody.stmts (fnB (mSt 2 23))) (fnS (mSt 2 23)) 0 [] Value.none Value.none Value.none Value.none Option.none Value.none Value.none 0)) #[]
noncomputable def o195_0 (p : Params) : Obj := Obj.mk (Value.type "code") Option.none (Data.fields #[Value.str (Str.ofString "stemWords") 416, Value.str (Str.ofString "BaseStemmer.stemWords") 417, Value.str (Str.ofString "/claim/cut.py") 418, Value.int 196 0, Value.int 2 0, Value.int 0 0, Value.int 0 0, Value.int 3 0, Value.ref 190, Value.bool Bool.true, Value.int 181 0, Value.ref 191, Value.none, Value.ref 192, Value.ref 193, Value.ref 194, Value.int 421 0, Value.int 196 0, Value.str (Str.ofString "/claim/cut.py") 422]) #[]
noncomputable def o196_0 (p : Params) : Obj := Obj.mk (Value.type "function") Option.none (Data.func (FuncData.mk (Str.ofString "stemWords") (Str.ofString "BaseStemmer.stemWords") (fnP (mSt 2 23)) (FuncBody.stmts (fnB (mSt 2 23))) (fnS (mSt 2 23)) 3 [] Value.none Value.none Value.none (Value.str (Str.ofString "snowballstemmer.basestemmer") 194) Option.none (Value.ref 195) Value.none 0)) #[]
noncomputable def o197_0 (p : Params) : Obj := Obj.mk (Value.type "tuple") Option.none (Data.seq #[Value.str (Str.ofString "bra") 424, Value.str (Str.ofString "current") 425, Value.str (Str.ofString "cursor") 426, Value.str (Str.ofString "ket") 427, Value.str (Str.ofString "limit") 428, Value.str (Str.ofString "limit_backward") 429]) #[]
noncomputable def o198_0 (p : Params) : Obj := Obj.mk (Value.type "dict") Option.none (Data.dict #[DictEntry.mk (PyData.keyHash p (Str.ofString "__module__")) (Value.str (Str.ofString "__module__") 203) (Value.str (Str.ofString "snowballstemmer.basestemmer") 194), DictEntry.mk (PyData.keyHash p (Str.ofString "__firstlineno__")) (Value.str (Str.ofString "__firstlineno__") 207) (Value.int 5 206), DictEntry.mk (PyData.keyHash p (Str.ofString "__init__")) (Value.str (Str.ofString "__init__") 214) (Value.ref 35), DictEntry.mk (PyData.keyHash p (Str.ofString "set_current")) (Value.str (Str.ofString "set_current") 222) (Value.ref 42), DictEntry.mk (PyData.keyHash p (Str.ofString "get_current")) (Value.str (Str.ofString "get_current") 229) (Value.ref 49), DictEntry.mk (PyData.keyHash p (Str.ofString "copy_from")) (Value.str (Str.ofString "copy_from") 237) (Value.ref 56), DictEntry.mk (PyData.keyHash p (Str.ofString "in_grouping")) (Value.str (Str.ofString "in_grouping") 245) (Value.ref 63), DictEntry.mk (PyData.keyHash p (Str.ofString "go_in_grouping")) (Value.str (Str.ofString "go_in_grouping") 253) (Value.ref 70), DictEntry.mk (PyData.keyHash p (Str.ofString "in_grouping_b")) (Value.str (Str.ofString "in_grouping_b") 261) (Value.ref 77), DictEntry.mk (PyData.keyHash p (Str.ofString "go_in_grouping_b")) (Value.str (Str.ofString "go_in_grouping_b") 269) (Value.ref 84), DictEntry.mk (PyData.keyHash p (Str.ofString "out_grouping")) (Value.str (Str.ofString "out_grouping") 277) (Value.ref 91), DictEntry.mk (PyData.keyHash p (Str.ofString "go_out_grouping")) (Value.str (Str.ofString "go_out_grouping") 285) (Value.ref 98), DictEntry.mk (PyData.keyHash p (Str.ofString "out_grouping_b")) (Value.str (Str.ofString "out_grouping_b") 293) (Value.ref 105), DictEntry.mk (PyData.keyHash p (Str.ofString "go_out_grouping_b")) (Value.str (Str.ofString "go_out_grouping_b") 301) (Value.ref 112), DictEntry.mk (PyData.keyHash p (Str.ofString "eq_s")) (Value.str (Str.ofString "eq_s") 309) (Value.ref 119), DictEntry.mk (PyData.keyHash p (Str.ofString "eq_s_b")) (Value.str (Str.ofString "eq_s_b") 317) (Value.ref 126), DictEntry.mk (PyData.keyHash p (Str.ofString "find_among")) (Value.str (Str.ofString "find_among") 337) (Value.ref 133), DictEntry.mk (PyData.keyHash p (Str.ofString "find_among_b")) (Value.str (Str.ofString "find_among_b") 357) (Value.ref 140), DictEntry.mk (PyData.keyHash p (Str.ofString "replace_s")) (Value.str (Str.ofString "replace_s") 368) (Value.ref 147), DictEntry.mk (PyData.keyHash p (Str.ofString "slice_from")) (Value.str (Str.ofString "slice_from") 376) (Value.ref 154), DictEntry.mk (PyData.keyHash p (Str.ofString "slice_del")) (Value.str (Str.ofString "slice_del") 383) (Value.ref 161), DictEntry.mk (PyData.keyHash p (Str.ofString "insert")) (Value.str (Str.ofString "insert") 393) (Value.ref 168), DictEntry.mk (PyData.keyHash p (Str.ofString "slice_to")) (Value.str (Str.ofString "slice_to") 400) (Value.ref 175), DictEntry.mk (PyData.keyHash p (Str.ofString "assign_to")) (Value.str (Str.ofString "assign_to") 407) (Value.ref 182), DictEntry.mk (PyData.keyHash p (Str.ofString "stemWord")) (Value.str (Str.ofString "stemWord") 415) (Value.ref 189), DictEntry.mk (PyData.keyHash p (Str.ofString "stemWords")) (Value.str (Str.ofString "stemWords") 423) (Value.ref 196), DictEntry.mk (PyData.keyHash p (Str.ofString "__static_attributes__")) (Value.str (Str.ofString "__static_attributes__") 430) (Value.ref 197), DictEntry.mk (PyData.keyHash p (Str.ofString "__dict__")) (Value.str (Str.ofString "__dict__") 432) (Value.ref 200), DictEntry.mk (PyData.keyHash p (Str.ofString "__weakref__")) (Value.str (Str.ofString "__weakref__") 434) (Value.ref 201), DictEntry.mk (PyData.keyHash p (Str.ofString "__doc__")) (Value.str (Str.ofString "__doc__") 435) Value.none] 4) #[]
noncomputable def o199_0 (p : Params) : Obj := Obj.mk (Value.type "type") Option.none (Data.cls (ClassData.mk (Str.ofString "BaseStemmer") [Value.type "object"] [Value.ref 199, Value.type "object"] 198 (Str.ofString "BaseStemmer") Bool.true [] [] Bool.false Option.none Bool.false)) #[Option.none, Option.none, Option.some (Value.str (Str.ofString "BaseStemmer") 196), Option.some (Value.str (Str.ofString "BaseStemmer") 204), Option.some (Value.builtin "object.__new__"), Option.some (Value.bool Bool.true)]
noncomputable def o200_0 (p : Params) : Obj := Obj.mk (Value.type "getset_descriptor") Option.none (Data.fields #[Value.str (Str.ofString "__dict__") 431, Value.ref 199, Value.builtin "function.__dict__", Value.builtin "function.__dict__#set"]) #[]
noncomputable def o201_0 (p : Params) : Obj := Obj.mk (Value.type "getset_descriptor") Option.none (Data.fields #[Value.str (Str.ofString "__weakref__") 433, Value.ref 199, Value.builtin "ExceptionGroup.__weakref__", Value.none]) #[]
noncomputable def o202_0 (p : Params) : Obj := Obj.mk (Value.type "super") Option.none (Data.fields #[Value.ref 199, Value.ref 199, Value.ref 199]) #[]
noncomputable def o203_0 (p : Params) : Obj := Obj.mk (Value.type "builtin_function_or_method") Option.none (Data.fields #[Value.builtin "object.__init_subclass__", Value.ref 199]) #[]
noncomputable def o3_3 (p : Params) : Obj := Obj.mk (Value.type "dict") Option.none (Data.dict #[DictEntry.mk (PyData.keyHash p (Str.ofString "__name__")) (Value.str (Str.ofString "__name__") 165) (Value.str (Str.ofString "snowballstemmer.indonesian_stemmer") 473), DictEntry.mk (PyData.keyHash p (Str.ofString "__doc__")) (Value.str (Str.ofString "__doc__") 166) Value.none, DictEntry.mk (PyData.keyHash p (Str.ofString "__package__")) (Value.str (Str.ofString "__package__") 167) Value.none, DictEntry.mk (PyData.keyHash p (Str.ofString "__loader__")) (Value.str (Str.ofString "__loader__") 168) (Value.builtin "__main__.__loader__#opaque"), DictEntry.mk (PyData.keyHash p (Str.ofString "__spec__")) (Value.str (Str.ofString "__spec__") 169) Value.none, DictEntry.mk (PyData.keyHash p (Str.ofString "__annotations__")) (Value.str (Str.ofString "__annotations__") 170) (Value.ref 6), DictEntry.mk (PyData.keyHash p (Str.ofString "__builtins__")) (Value.str (Str.ofString "__builtins__") 171) (Value.ref 4), DictEntry.mk (PyData.keyHash p (Str.ofString "__file__")) (Value.str (Str.ofString "__file__") 173) (Value.str (Str.ofString "/claim/cut.py") 172), DictEntry.mk (PyData.keyHash p (Str.ofString "__cached__")) (Value.str (Str.ofString "__cached__") 174) Value.none, DictEntry.mk (PyData.keyHash p (Str.ofString "_wall")) (Value.str (Str.ofString "_wall") 193) (Value.ref 21), DictEntry.mk (PyData.keyHash p (Str.ofString "BaseStemmer")) (Value.str (Str.ofString "BaseStemmer") 437) (Value.ref 199), DictEntry.mk (PyData.keyHash p (Str.ofString "Among")) (Value.str (Str.ofString "Among") 472) (Value.ref 220)] 12) #[]
noncomputable def o12_3 (p : Params) : Obj := Obj.mk Value.none Option.none (Data.fields #[Value.int 1 0, Value.int 0 0, Value.ref 20, Value.int 5 0, Value.int 0 0, Value.ref 27, Value.int 199 0, Value.int 0 0, Value.ref 209]) #[]
noncomputable def o204_0 (p : Params) : Obj := Obj.mk (Value.type "tuple") Option.none (Data.seq #[]) #[]
noncomputable def o205_0 (p : Params) : Obj := Obj.mk (Value.type "builtin_function_or_method") Option.none (Data.fields #[Value.builtin "type.__prepare__", Value.type "type"]) #[]
noncomputable def o206_0 (p : Params) : Obj := Obj.mk (Value.type "dict") Option.none (Data.dict #[DictEntry.mk (PyData.keyHash p (Str.ofString "__module__")) (Value.str (Str.ofString "__module__") 447) (Value.str (Str.ofString "snowballstemmer.among") 438), DictEntry.mk (PyData.keyHash p (Str.ofString "__qualname__")) (Value.str (Str.ofString "__qualname__") 449) (Value.str (Str.ofString "Among") 448), DictEntry.mk (PyData.keyHash p (Str.ofString "__firstlineno__")) (Value.str (Str.ofString "__firstlineno__") 451) (Value.int 199 450), DictEntry.mk (PyData.keyHash p (Str.ofString "__init__")) (Value.str (Str.ofString "__init__") 461) (Value.ref 217), DictEntry.mk (PyData.keyHash p (Str.ofString "__static_attributes__")) (Value.str (Str.ofString "__static_attributes__") 465) (Value.ref 218)] 5) #[]
noncomputable def o207_0 (p : Params) : Obj := Obj.mk (Value.type "tuple") Option.none (Data.seq #[]) #[]
noncomputable def o208_0 (p : Params) : Obj := Obj.mk Value.none Option.none (Data.fields #[Value.int 201 0, Value.int 4 0, Value.ref 216]) #[]
noncomputable def o209_0 (p : Params) : Obj := Obj.mk (Value.type "code") Option.none (Data.fields #[Value.str (Str.ofString "Among") 442, Value.str (Str.ofString "Among") 443, Value.str (Str.ofString "/claim/cut.py") 444, Value.int 199 0, Value.int 0 0, Value.int 0 0, Value.int 0 0, Value.int 0 0, Value.ref 207, Value.bool Bool.false, Value.int 181 0, Value.ref 208, Value.none, Value.none, Value.none, Value.none, Value.int 445 0, Value.int 199 0, Value.str (Str.ofString "/claim/cut.py") 446]) #[]
noncomputable def o210_0 (p : Params) : Obj := Obj.mk (Value.type "frame") Option.none Data.plain #[Option.some (Value.ref 209), Option.some (Value.ref 3), Option.some (Value.ref 206), Option.none, Option.some (Value.str (Str.ofString "snowballstemmer.among") 438), Option.none, Option.some (Value.ref 0)]
noncomputable def o211_0 (p : Params) : Obj := Obj.mk (Value.type "tuple") Option.none (Data.seq #[]) #[]
noncomputable def o212_0 (p : Params) : Obj := Obj.mk Value.none Option.none (Data.fields #[]) #[]
noncomputable def o213_0 (p : Params) : Obj := Obj.mk (Value.type "tuple") Option.none (Data.seq #[Value.str (Str.ofString "self") 455, Value.str (Str.ofString "s") 456, Value.str (Str.ofString "substring_i") 457, Value.str (Str.ofString "result") 458]) #[]
noncomputable def o214_0 (p : Params) : Obj := Obj.mk (Value.type "tuple") Option.none (Data.seq #[]) #[]
noncomputable def o215_0 (p : Params) : Obj := Obj.mk Value.none Option.none (Data.func (FuncData.mk (Str.ofString "__init__") (Str.ofString "Among.__init__") (fnP (mSt 4 0)) (FuncBody.stmts (fnB (mSt 4 0))) (fnS (mSt 4 0)) 0 [] Value.none Value.none Value.none Value.none Option.none Value.none Value.none 0)) #[]
noncomputable def o216_0 (p : Params) : Obj := Obj.mk (Value.type "code") Option.none (Data.fields #[Value.str (Str.ofString "__init__") 452, Value.str (Str.ofString "Among.__init__") 453, Value.str (Str.ofString "/claim/cut.py") 454, Value.int 201 0, Value.int 4 0, Value.int 0 0, Value.int 0 0, Value.int 3 0, Value.ref 211, Value.bool Bool.true, Value.int 181 0, Value.ref 212, Value.none, Value.ref 213, Value.ref 214, Value.ref 215, Value.int 459 0, Value.int 201 0, Value.str (Str.ofString "/claim/cut.py") 460]) #[]
noncomputable def o217_0 (p : Params) : Obj := Obj.mk (Value.type "function") Option.none (Data.func (FuncData.mk (Str.ofString "__init__") (Str.ofString "Among.__init__") (fnP (mSt 4 0)) (FuncBody.stmts (fnB (mSt 4 0))) (fnS (mSt 4 0)) 3 [] Value.none Value.none Value.none (Value.str (Str.ofString "snowballstemmer.among") 438) Option.none (Value.ref 216) Value.none 0)) #[]
noncomputable def o218_0 (p : Params) : Obj := Obj.mk (Value.type "tuple") Option.none (Data.seq #[Value.str (Str.ofString "result") 462, Value.str (Str.ofString "s") 463, Value.str (Str.ofString "substring_i") 464]) #[]
noncomputable def o219_0 (p : Params) : Obj := Obj.mk (Value.type "dict") Option.none (Data.dict #[DictEntry.mk (PyData.keyHash p (Str.ofString "__module__")) (Value.str (Str.ofString "__module__") 447) (Value.str (Str.ofString "snowballstemmer.among") 438), DictEntry.mk (PyData.keyHash p (Str.ofString "__firstlineno__")) (Value.str (Str.ofString "__firstlineno__") 451) (Value.int 199 450), DictEntry.mk (PyData.keyHash p (Str.ofString "__init__")) (Value.str (Str.ofString "__init__") 461) (Value.ref 217), DictEntry.mk (PyData.keyHash p (Str.ofString "__static_attributes__")) (Value.str (Str.ofString "__static_attributes__") 465) (Value.ref 218), DictEntry.mk (PyData.keyHash p (Str.ofString "__dict__")) (Value.str (Str.ofString "__dict__") 467) (Value.ref 221), DictEntry.mk (PyData.keyHash p (Str.ofString "__weakref__")) (Value.str (Str.ofString "__weakref__") 469) (Value.ref 222), DictEntry.mk (PyData.keyHash p (Str.ofString "__doc__")) (Value.str (Str.ofString "__doc__") 470) Value.none] 4) #[]
noncomputable def o220_0 (p : Params) : Obj := Obj.mk (Value.type "type") Option.none (Data.cls (ClassData.mk (Str.ofString "Among") [Value.type "object"] [Value.ref 220, Value.type "object"] 219 (Str.ofString "Among") Bool.true [] [] Bool.false Option.none Bool.false)) #[Option.none, Option.none, Option.some (Value.str (Str.ofString "Among") 440), Option.some (Value.str (Str.ofString "Among") 448), Option.some (Value.builtin "object.__new__"), Option.some (Value.bool Bool.true)]
noncomputable def o221_0 (p : Params) : Obj := Obj.mk (Value.type "getset_descriptor") Option.none (Data.fields #[Value.str (Str.ofString "__dict__") 466, Value.ref 220, Value.builtin "function.__dict__", Value.builtin "function.__dict__#set"]) #[]
noncomputable def o222_0 (p : Params) : Obj := Obj.mk (Value.type "getset_descriptor") Option.none (Data.fields #[Value.str (Str.ofString "__weakref__") 468, Value.ref 220, Value.builtin "ExceptionGroup.__weakref__", Value.none]) #[]
noncomputable def o223_0 (p : Params) : Obj := Obj.mk (Value.type "super") Option.none (Data.fields #[Value.ref 220, Value.ref 220, Value.ref 220]) #[]
noncomputable def o224_0 (p : Params) : Obj := Obj.mk (Value.type "builtin_function_or_method") Option.none (Data.fields #[Value.builtin "object.__init_subclass__", Value.ref 220]) #[]
noncomputable def o12_4 (p : Params) : Obj := Obj.mk Value.none Option.none (Data.fields #[Value.int 1 0, Value.int 0 0, Value.ref 20, Value.int 5 0, Value.int 0 0, Value.ref 27, Value.int 199 0, Value.int 0 0, Value.ref 209, Value.int 206 0, Value.int 0 0, Value.ref 230]) #[]
noncomputable def o225_0 (p : Params) : Obj := Obj.mk (Value.type "tuple") Option.none (Data.seq #[Value.ref 199]) #[]
noncomputable def o226_0 (p : Params) : Obj := Obj.mk (Value.type "builtin_function_or_method") Option.none (Data.fields #[Value.builtin "type.__prepare__", Value.type "type"]) #[]
noncomputable def o227_0 (p : Params) : Obj := Obj.mk (Value.type "dict") Option.none (Data.dict #[DictEntry.mk (PyData.keyHash p (Str.ofString "__module__")) (Value.str (Str.ofString "__module__") 482) (Value.str (Str.ofString "snowballstemmer.indonesian_stemmer") 473), DictEntry.mk (PyData.keyHash p (Str.ofString "__qualname__")) (Value.str (Str.ofString "__qualname__") 484) (Value.str (Str.ofString "IndonesianStemmer") 483), DictEntry.mk (PyData.keyHash p (Str.ofString "__firstlineno__")) (Value.str (Str.ofString "__firstlineno__") 486) (Value.int 206 485)] 3) #[]
noncomputable def o228_0 (p : Params) : Obj := Obj.mk (Value.type "tuple") Option.none (Data.seq #[]) #[]
noncomputable def o229_0 (p : Params) : Obj := Obj.mk Value.none Option.none (Data.fields #[]) #[]
noncomputable def o230_0 (p : Params) : Obj := Obj.mk (Value.type "code") Option.none (Data.fields #[Value.str (Str.ofString "IndonesianStemmer") 477, Value.str (Str.ofString "IndonesianStemmer") 478, Value.str (Str.ofString "/claim/cut.py") 479, Value.int 206 0, Value.int 0 0, Value.int 0 0, Value.int 0 0, Value.int 0 0, Value.ref 228, Value.bool Bool.false, Value.int 181 0, Value.ref 229, Value.none, Value.none, Value.none, Value.none, Value.int 480 0, Value.int 206 0, Value.str (Str.ofString "/claim/cut.py") 481]) #[]
noncomputable def o231_0 (p : Params) : Obj := Obj.mk (Value.type "frame") Option.none Data.plain #[Option.some (Value.ref 230), Option.some (Value.ref 3), Option.some (Value.ref 227), Option.none, Option.some (Value.str (Str.ofString "snowballstemmer.indonesian_stemmer") 473), Option.none, Option.some (Value.ref 0)]
noncomputable def o227_1 (p : Params) : Obj := Obj.mk (Value.type "dict") Option.none (Data.dict #[DictEntry.mk (PyData.keyHash p (Str.ofString "__module__")) (Value.str (Str.ofString "__module__") 482) (Value.str (Str.ofString "snowballstemmer.indonesian_stemmer") 473), DictEntry.mk (PyData.keyHash p (Str.ofString "__qualname__")) (Value.str (Str.ofString "__qualname__") 484) (Value.str (Str.ofString "IndonesianStemmer") 483), DictEntry.mk (PyData.keyHash p (Str.ofString "__firstlineno__")) (Value.str (Str.ofString "__firstlineno__") 486) (Value.int 206 485), DictEntry.mk (PyData.keyHash p (Str.ofString "g_vowel")) (Value.str (Str.ofString "g_vowel") 497) (Value.ref 232)] 4) #[]
noncomputable def o227_2 (p : Params) : Obj := Obj.mk (Value.type "dict") Option.none (Data.dict #[DictEntry.mk (PyData.keyHash p (Str.ofString "__module__")) (Value.str (Str.ofString "__module__") 482) (Value.str (Str.ofString "snowballstemmer.indonesian_stemmer") 473), DictEntry.mk (PyData.keyHash p (Str.ofString "__qualname__")) (Value.str (Str.ofString "__qualname__") 484) (Value.str (Str.ofString "IndonesianStemmer") 483), DictEntry.mk (PyData.keyHash p (Str.ofString "__firstlineno__")) (Value.str (Str.ofString "__firstlineno__") 486) (Value.int 206 485), DictEntry.mk (PyData.keyHash p (Str.ofString "g_vowel")) (Value.str (Str.ofString "g_vowel") 497) (Value.ref 232), DictEntry.mk (PyData.keyHash p (Str.ofString "I_prefix")) (Value.str (Str.ofString "I_prefix") 499) (Value.int 0 498), DictEntry.mk (PyData.keyHash p (Str.ofString "I_measure")) (Value.str (Str.ofString "I_measure") 501) (Value.int 0 500), DictEntry.mk (PyData.keyHash p (Str.ofString "r_remove_particle")) (Value.str (Str.ofString "r_remove_particle") 508) (Value.ref 239), DictEntry.mk (PyData.keyHash p (Str.ofString "r_remove_possessive_pronoun")) (Value.str (Str.ofString "r_remove_possessive_pronoun") 515) (Value.ref 246), DictEntry.mk (PyData.keyHash p (Str.ofString "r_remove_suffix")) (Value.str (Str.ofString "r_remove_suffix") 524) (Value.ref 253), DictEntry.mk (PyData.keyHash p (Str.ofString "r_remove_first_order_prefix")) (Value.str (Str.ofString "r_remove_first_order_prefix") 540) (Value.ref 260), DictEntry.mk (PyData.keyHash p (Str.ofString "r_remove_second_order_prefix")) (Value.str (Str.ofString "r_remove_second_order_prefix") 550) (Value.ref 267), DictEntry.mk (PyData.keyHash p (Str.ofString "_stem")) (Value.str (Str.ofString "_stem") 567) (Value.ref 274)] 12) #[]
noncomputable def o229_1 (p : Params) : Obj := Obj.mk Value.none Option.none (Data.fields #[Value.int 211 0, Value.int 4 0, Value.ref 238, Value.int 220 0, Value.int 4 0, Value.ref 245, Value.int 229 0, Value.int 4 0, Value.ref 252, Value.int 268 0, Value.int 4 0, Value.ref 259, Value.int 364 0, Value.int 4 0, Value.ref 266, Value.int 430 0, Value.int 4 0, Value.ref 273]) #[]
noncomputable def o233_0 (p : Params) : Obj := Obj.mk (Value.type "tuple") Option.none (Data.seq #[]) #[]
noncomputable def o234_0 (p : Params) : Obj := Obj.mk Value.none Option.none (Data.fields #[]) #[]
noncomputable def o235_0 (p : Params) : Obj := Obj.mk (Value.type "tuple") Option.none (Data.seq #[Value.str (Str.ofString "self") 505]) #[]
noncomputable def o236_0 (p : Params) : Obj := Obj.mk (Value.type "tuple") Option.none (Data.seq #[]) #[]
noncomputable def o237_0 (p : Params) : Obj := Obj.mk Value.none Option.none (Data.func (FuncData.mk (Str.ofString "r_remove_particle") (Str.ofString "IndonesianStemmer.r_remove_particle") (fnP (mSt 6 3)) (FuncBody.stmts (fnB (mSt 6 3))) (fnS (mSt 6 3)) 0 [] Value.none Value.none Value.none Value.none Option.none Value.none Value.none 0)) #[]
noncomputable def o238_0 (p : Params) : Obj := Obj.mk (Value.type "code") Option.none (Data.fields #[Value.str (Str.ofString "r_remove_particle") 502, Value.str (Str.ofString "IndonesianStemmer.r_remove_particle") 503, Value.str (Str.ofString "/claim/cut.py") 504, Value.int 211 0, Value.int 1 0, Value.int 0 0, Value.int 0 0, Value.int 3 0, Value.ref 233, Value.bool Bool.true, Value.int 181 0, Value.ref 234, Value.none, Value.ref 235, Value.ref 236, Value.ref 237, Value.int 506 0, Value.int 211 0, Value.str (Str.ofString "/claim/cut.py") 507]) #[]
noncomputable def o239_0 (p : Params) : Obj := Obj.mk (Value.type "function") Option.none (Data.func (FuncData.mk (Str.ofString "r_remove_particle") (Str.ofString "IndonesianStemmer.r_remove_particle") (fnP (mSt 6 3)) (FuncBody.stmts (fnB (mSt 6 3))) (fnS (mSt 6 3)) 3 [] Value.none Value.none Value.none (Value.str (Str.ofString "snowballstemmer.indonesian_stemmer") 473) Option.none (Value.ref 238) Value.none 0)) #[]
noncomputable def o240_0 (p : Params) : Obj := Obj.mk (Value.type "tuple") Option.none (Data.seq #[]) #[]
noncomputable def o241_0 (p : Params) : Obj := Obj.mk Value.none Option.none (Data.fields #[]) #[]
noncomputable def o242_0 (p : Params) : Obj := Obj.mk (Value.type "tuple") Option.none (Data.seq #[Value.str (Str.ofString "self") 512]) #[]
noncomputable def o243_0 (p : Params) : Obj := Obj.mk (Value.type "tuple") Option.none (Data.seq #[]) #[]
noncomputable def o244_0 (p : Params) : Obj := Obj.mk Value.none Option.none (Data.func (FuncData.mk (Str.ofString "r_remove_possessive_pronoun") (Str.ofString "IndonesianStemmer.r_remove_possessive_pronoun") (fnP (mSt 6 4)) (FuncBody.stmts (fnB (mSt 6 4))) (fnS (mSt 6 3)) 0 [] Value.none Value.none Value.none Value.none Option.none Value.none Value.none 0)) #[]
noncomputable def o245_0 (p : Params) : Obj := Obj.mk (Value.type "code") Option.none (Data.fields #[Value.str (Str.ofString "r_remove_possessive_pronoun") 509, Value.str (Str.ofString "IndonesianStemmer.r_remove_possessive_pronoun") 510, Value.str (Str.ofString "/claim/cut.py") 511, Value.int 220 0, Value.int 1 0, Value.int 0 0, Value.int 0 0, Value.int 3 0, Value.ref 240, Value.bool Bool.true, Value.int 181 0, Value.ref 241, Value.none, Value.ref 242, Value.ref 243, Value.ref 244, Value.int 513 0, Value.int 220 0, Value.str (Str.ofString "/claim/cut.py") 514]) #[]
noncomputable def o246_0 (p : Params) : Obj := Obj.mk (Value.type "function") Option.none (Data.func (FuncData.mk (Str.ofString "r_remove_possessive_pronoun") (Str.ofString "IndonesianStemmer.r_remove_possessive_pronoun") (fnP (mSt 6 4)) (FuncBody.stmts (fnB (mSt 6 4))) (fnS (mSt 6 3)) 3 [] Value.none Value.none Value.none (Value.str (Str.ofString "snowballstemmer.indonesian_stemmer") 473) Option.none (Value.ref 245) Value.none 0)) #[]
noncomputable def o247_0 (p : Params) : Obj := Obj.mk (Value.type "tuple") Option.none (Data.seq #[]) #[]
noncomputable def o248_0 (p : Params) : Obj := Obj.mk Value.none Option.none (Data.fields #[]) #[]
noncomputable def o249_0 (p : Params) : Obj := Obj.mk (Value.type "tuple") Option.none (Data.seq #[Value.str (Str.ofString "self") 519, Value.str (Str.ofString "among_var") 520, Value.str (Str.ofString "v_1") 521]) #[]
noncomputable def o250_0 (p : Params) : Obj := Obj.mk (Value.type "tuple") Option.none (Data.seq #[]) #[]
noncomputable def o251_0 (p : Params) : Obj := Obj.mk Value.none Option.none (Data.func (FuncData.mk (Str.ofString "r_remove_suffix") (Str.ofString "IndonesianStemmer.r_remove_suffix") (fnP (mSt 6 5)) (FuncBody.stmts (fnB (mSt 6 5))) (fnS (mSt 6 5)) 0 [] Value.none Value.none Value.none Value.none Option.none Value.none Value.none 0)) #[]
noncomputable def o252_0 (p : Params) : Obj := Obj.mk (Value.type "code") Option.none (Data.fields #[Value.str (Str.ofString "r_remove_suffix") 516, Value.str (Str.ofString "IndonesianStemmer.r_remove_suffix") 517, Value.str (Str.ofString "/claim/cut.py") 518, Value.int 229 0, Value.int 1 0, Value.int 0 0, Value.int 0 0, Value.int 3 0, Value.ref 247, Value.bool Bool.true, Value.int 181 0, Value.ref 248, Value.none, Value.ref 249, Value.ref 250, Value.ref 251, Value.int 522 0, Value.int 229 0, Value.str (Str.ofString "/claim/cut.py") 523]) #[]
noncomputable def o253_0 (p : Params) : Obj := Obj.mk (Value.type "function") Option.none (Data.func (FuncData.mk (Str.ofString "r_remove_suffix") (Str.ofString "IndonesianStemmer.r_remove_suffix") (fnP (mSt 6 5)) (FuncBody.stmts (fnB (mSt 6 5))) (fnS (mSt 6 5)) 3 [] Value.none Value.none Value.none (Value.str (Str.ofString "snowballstemmer.indonesian_stemmer") 473) Option.none (Value.ref 252) Value.none 0)) #[]
noncomputable def o254_0 (p : Params) : Obj := Obj.mk (Value.type "tuple") Option.none (Data.seq #[]) #[]
noncomputable def o255_0 (p : Params) : Obj := Obj.mk Value.none Option.none (Data.fields #[]) #[]
noncomputable def o256_0 (p : Params) : Obj := Obj.mk (Value.type "tuple") Option.none (Data.seq #[Value.str (Str.ofString "self") 528, Value.str (Str.ofString "among_var") 529, Value.str (Str.ofString "v_1") 530, Value.str (Str.ofString "v_2") 531, Value.str (Str.ofString "v_3") 532, Value.str (Str.ofString "v_4") 533, Value.str (Str.ofString "v_5") 534, Value.str (Str.ofString "v_6") 535, Value.str (Str.ofString "v_7") 536, Value.str (Str.ofString "v_8") 537]) #[]
noncomputable def o257_0 (p : Params) : Obj := Obj.mk (Value.type "tuple") Option.none (Data.seq #[]) #[]
noncomputable def o258_0 (p : Params) : Obj := Obj.mk Value.none Option.none (Data.func (FuncData.mk (Str.ofString "r_remove_first_order_prefix") (Str.ofString "IndonesianStemmer.r_remove_first_order_prefix") (fnP (mSt 6 6)) (FuncBody.stmts (fnB (mSt 6 6))) (fnS (mSt 6 6)) 0 [] Value.none Value.none Value.none Value.none Option.none Value.none Value.none 0)) #[]
noncomputable def o259_0 (p : Params) : Obj := Obj.mk (Value.type "code") Option.none (Data.fields #[Value.str (Str.ofString "r_remove_first_order_prefix") 525, Value.str (Str.ofString "IndonesianStemmer.r_remove_first_order_prefix") 526, Value.str (Str.ofString "/claim/cut.py") 527, Value.int 268 0, Value.int 1 0, Value.int 0 0, Value.int 0 0, Value.int 3 0, Value.ref 254, Value.bool Bool.true, Value.int 181 0, Value.ref 255, Value.none, Value.ref 256, Value.ref 257, Value.ref 258, Value.int 538 0, Value.int 268 0, Value.str (Str.ofString "/claim/cut.py") 539]) #[]
noncomputable def o260_0 (p : Params) : Obj := Obj.mk (Value.type "function") Option.none (Data.func (FuncData.mk (Str.ofString "r_remove_first_order_prefix") (Str.ofString "IndonesianStemmer.r_remove_first_order_prefix") (fnP (mSt 6 6)) (FuncBody.stmts (fnB (mSt 6 6))) (fnS (mSt 6 6)) 3 [] Value.none Value.none Value.none (Value.str (Str.ofString "snowballstemmer.indonesian_stemmer") 473) Option.none (Value.ref 259) Value.none 0)) #[]
noncomputable def o261_0 (p : Params) : Obj := Obj.mk (Value.type "tuple") Option.none (Data.seq #[]) #[]
noncomputable def o262_0 (p : Params) : Obj := Obj.mk Value.none Option.none (Data.fields #[]) #[]
noncomputable def o263_0 (p : Params) : Obj := Obj.mk (Value.type "tuple") Option.none (Data.seq #[Value.str (Str.ofString "self") 544, Value.str (Str.ofString "among_var") 545, Value.str (Str.ofString "v_1") 546, Value.str (Str.ofString "v_2") 547]) #[]
noncomputable def o264_0 (p : Params) : Obj := Obj.mk (Value.type "tuple") Option.none (Data.seq #[]) #[]
noncomputable def o265_0 (p : Params) : Obj := Obj.mk Value.none Option.none (Data.func (FuncData.mk (Str.ofString "r_remove_second_order_prefix") (Str.ofString "IndonesianStemmer.r_remove_second_order_prefix") (fnP (mSt 6 7)) (FuncBody.stmts (fnB (mSt 6 7))) (fnS (mSt 6 7)) 0 [] Value.none Value.none Value.none Value.none Option.none Value.none Value.none 0)) #[]
noncomputable def o266_0 (p : Params) : Obj := Obj.mk (Value.type "code") Option.none (Data.fields #[Value.str (Str.ofString "r_remove_second_order_prefix") 541, Value.str (Str.ofString "IndonesianStemmer.r_remove_second_order_prefix") 542, Value.str (Str.ofString "/claim/cut.py") 543, Value.int 364 0, Value.int 1 0, Value.int 0 0, Value.int 0 0, Value.int 3 0, Value.ref 261, Value.bool Bool.true, Value.int 181 0, Value.ref 262, Value.none, Value.ref 263, Value.ref 264, Value.ref 265, Value.int 548 0, Value.int 364 0, Value.str (Str.ofString "/claim/cut.py") 549]) #[]
noncomputable def o267_0 (p : Params) : Obj := Obj.mk (Value.type "function") Option.none (Data.func (FuncData.mk (Str.ofString "r_remove_second_order_prefix") (Str.ofString "IndonesianStemmer.r_remove_second_order_prefix") (fnP (mSt 6 7)) (FuncBody.stmts (fnB (mSt 6 7))) (fnS (mSt 6 7)) 3 [] Value.none Value.none Value.none (Value.str (Str.ofString "snowballstemmer.indonesian_stemmer") 473) Option.none (Value.ref 266) Value.none 0)) #[]
noncomputable def o268_0 (p : Params) : Obj := Obj.mk (Value.type "tuple") Option.none (Data.seq #[]) #[]
noncomputable def o269_0 (p : Params) : Obj := Obj.mk Value.none Option.none (Data.fields #[]) #[]
noncomputable def o270_0 (p : Params) : Obj := Obj.mk (Value.type "tuple") Option.none (Data.seq #[Value.str (Str.ofString "self") 554, Value.str (Str.ofString "v_1") 555, Value.str (Str.ofString "v_2") 556, Value.str (Str.ofString "v_3") 557, Value.str (Str.ofString "v_4") 558, Value.str (Str.ofString "v_5") 559, Value.str (Str.ofString "v_6") 560, Value.str (Str.ofString "v_7") 561, Value.str (Str.ofString "v_8") 562, Value.str (Str.ofString "v_9") 563, Value.str (Str.ofString "v_10") 564]) #[]
noncomputable def o271_0 (p : Params) : Obj := Obj.mk (Value.type "tuple") Option.none (Data.seq #[]) #[]
noncomputable def o272_0 (p : Params) : Obj := Obj.mk Value.none Option.none (Data.func (FuncData.mk (Str.ofString "_stem") (Str.ofString "IndonesianStemmer._stem") (fnP (mSt 6 8)) (FuncBody.stmts (fnB (mSt 6 8))) (fnS (mSt 6 8)) 0 [] Value.none Value.none Value.none Value.none Option.none Value.none Value.none 0)) #[]
noncomputable def o273_0 (p : Params) : Obj := Obj.mk (Value.type "code") Option.none (Data.fields #[Value.str (Str.ofString "_stem") 551, Value.str (Str.ofString "IndonesianStemmer._stem") 552, Value.str (Str.ofString "/claim/cut.py") 553, Value.int 430 0, Value.int 1 0, Value.int 0 0, Value.int 0 0, Value.int 3 0, Value.ref 268, Value.bool Bool.true, Value.int 181 0, Value.ref 269, Value.none, Value.ref 270, Value.ref 271, Value.ref 272, Value.int 565 0, Value.int 430 0, Value.str (Str.ofString "/claim/cut.py") 566]) #[]
noncomputable def o274_0 (p : Params) : Obj := Obj.mk (Value.type "function") Option.none (Data.func (FuncData.mk (Str.ofString "_stem") (Str.ofString "IndonesianStemmer._stem") (fnP (mSt 6 8)) (FuncBody.stmts (fnB (mSt 6 8))) (fnS (mSt 6 8)) 3 [] Value.none Value.none Value.none (Value.str (Str.ofString "snowballstemmer.indonesian_stemmer") 473) Option.none (Value.ref 273) Value.none 0)) #[]
noncomputable def o227_3 (p : Params) : Obj := Obj.mk (Value.type "dict") Option.none (Data.dict #[DictEntry.mk (PyData.keyHash p (Str.ofString "__module__")) (Value.str (Str.ofString "__module__") 482) (Value.str (Str.ofString "snowballstemmer.indonesian_stemmer") 473), DictEntry.mk (PyData.keyHash p (Str.ofString "__qualname__")) (Value.str (Str.ofString "__qualname__") 484) (Value.str (Str.ofString "IndonesianStemmer") 483), DictEntry.mk (PyData.keyHash p (Str.ofString "__firstlineno__")) (Value.str (Str.ofString "__firstlineno__") 486) (Value.int 206 485), DictEntry.mk (PyData.keyHash p (Str.ofString "g_vowel")) (Value.str (Str.ofString "g_vowel") 497) (Value.ref 232), DictEntry.mk (PyData.keyHash p (Str.ofString "I_prefix")) (Value.str (Str.ofString "I_prefix") 499) (Value.int 0 498), DictEntry.mk (PyData.keyHash p (Str.ofString "I_measure")) (Value.str (Str.ofString "I_measure") 501) (Value.int 0 500), DictEntry.mk (PyData.keyHash p (Str.ofString "r_remove_particle")) (Value.str (Str.ofString "r_remove_particle") 508) (Value.ref 239), DictEntry.mk (PyData.keyHash p (Str.ofString "r_remove_possessive_pronoun")) (Value.str (Str.ofString "r_remove_possessive_pronoun") 515) (Value.ref 246), DictEntry.mk (PyData.keyHash p (Str.ofString "r_remove_suffix")) (Value.str (Str.ofString "r_remove_suffix") 524) (Value.ref 253), DictEntry.mk (PyData.keyHash p (Str.ofString "r_remove_first_order_prefix")) (Value.str (Str.ofString "r_remove_first_order_prefix") 540) (Value.ref 260), DictEntry.mk (PyData.keyHash p (Str.ofString "r_remove_second_order_prefix")) (Value.str (Str.ofString "r_remove_second_order_prefix") 550) (Value.ref 267), DictEntry.mk (PyData.keyHash p (Str.ofString "_stem")) (Value.str (Str.ofString "_stem") 567) (Value.ref 274), DictEntry.mk (PyData.keyHash p (Str.ofString "a_0")) (Value.str (Str.ofString "a_0") 610) (Value.ref 284)] 13) #[]
noncomputable def o275_0 (p : Params) : Obj := Obj.mk (Value.type "dict") Option.none (Data.dict #[DictEntry.mk (PyData.keyHash p (Str.ofString "s")) (Value.str (Str.ofString "s") 577) (Value.str (Str.ofString "kah") 568), DictEntry.mk (PyData.keyHash p (Str.ofString "substring_i")) (Value.str (Str.ofString "substring_i") 579) (Value.int (-1) 570), DictEntry.mk (PyData.keyHash p (Str.ofString "result")) (Value.str (Str.ofString "result") 581) (Value.int 1 571)] 3) #[]
noncomputable def o276_0 (p : Params) : Obj := Obj.mk (Value.ref 220) (Option.some 275) Data.plain #[]
noncomputable def o277_0 (p : Params) : Obj := Obj.mk (Value.type "frame") Option.none (Data.dict #[DictEntry.mk (PyData.keyHash p (Str.ofString "self")) (Value.str (Str.ofString "self") 572) (Value.ref 276), DictEntry.mk (PyData.keyHash p (Str.ofString "s")) (Value.str (Str.ofString "s") 573) (Value.str (Str.ofString "kah") 568), DictEntry.mk (PyData.keyHash p (Str.ofString "substring_i")) (Value.str (Str.ofString "substring_i") 574) (Value.int (-1) 570), DictEntry.mk (PyData.keyHash p (Str.ofString "result")) (Value.str (Str.ofString "result") 575) (Value.int 1 571)] 4) #[]
noncomputable def o278_0 (p : Params) : Obj := Obj.mk (Value.type "dict") Option.none (Data.dict #[DictEntry.mk (PyData.keyHash p (Str.ofString "s")) (Value.str (Str.ofString "s") 591) (Value.str (Str.ofString "lah") 582), DictEntry.mk (PyData.keyHash p (Str.ofString "substring_i")) (Value.str (Str.ofString "substring_i") 593) (Value.int (-1) 584), DictEntry.mk (PyData.keyHash p (Str.ofString "result")) (Value.str (Str.ofString "result") 595) (Value.int 1 585)] 3) #[]
noncomputable def o279_0 (p : Params) : Obj := Obj.mk (Value.ref 220) (Option.some 278) Data.plain #[]
noncomputable def o280_0 (p : Params) : Obj := Obj.mk (Value.type "frame") Option.none (Data.dict #[DictEntry.mk (PyData.keyHash p (Str.ofString "self")) (Value.str (Str.ofString "self") 586) (Value.ref 279), DictEntry.mk (PyData.keyHash p (Str.ofString "s")) (Value.str (Str.ofString "s") 587) (Value.str (Str.ofString "lah") 582), DictEntry.mk (PyData.keyHash p (Str.ofString "substring_i")) (Value.str (Str.ofString "substring_i") 588) (Value.int (-1) 584), DictEntry.mk (PyData.keyHash p (Str.ofString "result")) (Value.str (Str.ofString "result") 589) (Value.int 1 585)] 4) #[]
noncomputable def o281_0 (p : Params) : Obj := Obj.mk (Value.type "dict") Option.none (Data.dict #[DictEntry.mk (PyData.keyHash p (Str.ofString "s")) (Value.str (Str.ofString "s") 605) (Value.str (Str.ofString "pun") 596), DictEntry.mk (PyData.keyHash p (Str.ofString "substring_i")) (Value.str (Str.ofString "substring_i") 607) (Value.int (-1) 598), DictEntry.mk (PyData.keyHash p (Str.ofString "result")) (Value.str (Str.ofString "result") 609) (Value.int 1 599)] 3) #[]
noncomputable def o282_0 (p : Params) : Obj := Obj.mk (Value.ref 220) (Option.some 281) Data.plain #[]
noncomputable def o283_0 (p : Params) : Obj := Obj.mk (Value.type "frame") Option.none (Data.dict #[DictEntry.mk (PyData.keyHash p (Str.ofString "self")) (Value.str (Str.ofString "self") 600) (Value.ref 282), DictEntry.mk (PyData.keyHash p (Str.ofString "s")) (Value.str (Str.ofString "s") 601) (Value.str (Str.ofString "pun") 596), DictEntry.mk (PyData.keyHash p (Str.ofString "substring_i")) (Value.str (Str.ofString "substring_i") 602) (Value.int (-1) 598), DictEntry.mk (PyData.keyHash p (Str.ofString "result")) (Value.str (Str.ofString "result") 603) (Value.int 1 599)] 4) #[]
noncomputable def o284_0 (p : Params) : Obj := Obj.mk (Value.type "list") Option.none (Data.seq #[Value.ref 276, Value.ref 279, Value.ref 282]) #[]
noncomputable def o227_4 (p : Params) : Obj := Obj.mk (Value.type "dict") Option.none (Data.dict #[DictEntry.mk (PyData.keyHash p (Str.ofString "__module__")) (Value.str (Str.ofString "__module__") 482) (Value.str (Str.ofString "snowballstemmer.indonesian_stemmer") 473), DictEntry.mk (PyData.keyHash p (Str.ofString "__qualname__")) (Value.str (Str.ofString "__qualname__") 484) (Value.str (Str.ofString "IndonesianStemmer") 483), DictEntry.mk (PyData.keyHash p (Str.ofString "__firstlineno__")) (Value.str (Str.ofString "__firstlineno__") 486) (Value.int 206 485), DictEntry.mk (PyData.keyHash p (Str.ofString "g_vowel")) (Value.str (Str.ofString "g_vowel") 497) (Value.ref 232), DictEntry.mk (PyData.keyHash p (Str.ofString "I_prefix")) (Value.str (Str.ofString "I_prefix") 499) (Value.int 0 498), DictEntry.mk (PyData.keyHash p (Str.ofString "I_measure")) (Value.str (Str.ofString "I_measure") 501) (Value.int 0 500), DictEntry.mk (PyData.keyHash p (Str.ofString "r_remove_particle")) (Value.str (Str.ofString "r_remove_particle") 508) (Value.ref 239), DictEntry.mk (PyData.keyHash p (Str.ofString "r_remove_possessive_pronoun")) (Value.str (Str.ofString "r_remove_possessive_pronoun") 515) (Value.ref 246), DictEntry.mk (PyData.keyHash p (Str.ofString "r_remove_suffix")) (Value.str (Str.ofString "r_remove_suffix") 524) (Value.ref 253), DictEntry.mk (PyData.keyHash p (Str.ofString "r_remove_first_order_prefix")) (Value.str (Str.ofString "r_remove_first_order_prefix") 540) (Value.ref 260), DictEntry.mk (PyData.keyHash p (Str.ofString "r_remove_second_order_prefix")) (Value.str (Str.ofString "r_remove_second_order_prefix") 550) (Value.ref 267), DictEntry.mk (PyData.keyHash p (Str.ofString "_stem")) (Value.str (Str.ofString "_stem") 567) (Value.ref 274), DictEntry.mk (PyData.keyHash p (Str.ofString "a_0")) (Value.str (Str.ofString "a_0") 610) (Value.ref 284), DictEntry.mk (PyData.keyHash p (Str.ofString "a_1")) (Value.str (Str.ofString "a_1") 653) (Value.ref 294)] 14) #[]
noncomputable def o285_0 (p : Params) : Obj := Obj.mk (Value.type "dict") Option.none (Data.dict #[DictEntry.mk (PyData.keyHash p (Str.ofString "s")) (Value.str (Str.ofString "s") 620) (Value.str (Str.ofString "nya") 611), DictEntry.mk (PyData.keyHash p (Str.ofString "substring_i")) (Value.str (Str.ofString "substring_i") 622) (Value.int (-1) 613), DictEntry.mk (PyData.keyHash p (Str.ofString "result")) (Value.str (Str.ofString "result") 624) (Value.int 1 614)] 3) #[]
noncomputable def o286_0 (p : Params) : Obj := Obj.mk (Value.ref 220) (Option.some 285) Data.plain #[]
noncomputable def o287_0 (p : Params) : Obj := Obj.mk (Value.type "frame") Option.none (Data.dict #[DictEntry.mk (PyData.keyHash p (Str.ofString "self")) (Value.str (Str.ofString "self") 615) (Value.ref 286), DictEntry.mk (PyData.keyHash p (Str.ofString "s")) (Value.str (Str.ofString "s") 616) (Value.str (Str.ofString "nya") 611), DictEntry.mk (PyData.keyHash p (Str.ofString "substring_i")) (Value.str (Str.ofString "substring_i") 617) (Value.int (-1) 613), DictEntry.mk (PyData.keyHash p (Str.ofString "result")) (Value.str (Str.ofString "result") 618) (Value.int 1 614)] 4) #[]
noncomputable def o288_0 (p : Params) : Obj := Obj.mk (Value.type "dict") Option.none (Data.dict #[DictEntry.mk (PyData.keyHash p (Str.ofString "s")) (Value.str (Str.ofString "s") 634) (Value.str (Str.ofString "ku") 625), DictEntry.mk (PyData.keyHash p (Str.ofString "substring_i")) (Value.str (Str.ofString "substring_i") 636) (Value.int (-1) 627), DictEntry.mk (PyData.keyHash p (Str.ofString "result")) (Value.str (Str.ofString "result") 638) (Value.int 1 628)] 3) #[]
noncomputable def o289_0 (p : Params) : Obj := Obj.mk (Value.ref 220) (Option.some 288) Data.plain #[]
noncomputable def o290_0 (p : Params) : Obj := Obj.mk (Value.type "frame") Option.none (Data.dict #[DictEntry.mk (PyData.keyHash p (Str.ofString "self")) (Value.str (Str.ofString "self") 629) (Value.ref 289), DictEntry.mk (PyData.keyHash p (Str.ofString "s")) (Value.str (Str.ofString "s") 630) (Value.str (Str.ofString "ku") 625), DictEntry.mk (PyData.keyHash p (Str.ofString "substring_i")) (Value.str (Str.ofString "substring_i") 631) (Value.int (-1) 627), DictEntry.mk (PyData.keyHash p (Str.ofString "result")) (Value.str (Str.ofString "result") 632) (Value.int 1 628)] 4) #[]
noncomputable def o291_0 (p : Params) : Obj := Obj.mk (Value.type "dict") Option.none (Data.dict #[DictEntry.mk (PyData.keyHash p (Str.ofString "s")) (Value.str (Str.ofString "s") 648) (Value.str (Str.ofString "mu") 639), DictEntry.mk (PyData.keyHash p (Str.ofString "substring_i")) (Value.str (Str.ofString "substring_i") 650) (Value.int (-1) 641), DictEntry.mk (PyData.keyHash p (Str.ofString "result")) (Value.str (Str.ofString "result") 652) (Value.int 1 642)] 3) #[]
noncomputable def o292_0 (p : Params) : Obj := Obj.mk (Value.ref 220) (Option.some 291) Data.plain #[]
noncomputable def o293_0 (p : Params) : Obj := Obj.mk (Value.type "frame") Option.none (Data.dict #[DictEntry.mk (PyData.keyHash p (Str.ofString "self")) (Value.str (Str.ofString "self") 643) (Value.ref 292), DictEntry.mk (PyData.keyHash p (Str.ofString "s")) (Value.str (Str.ofString "s") 644) (Value.str (Str.ofString "mu") 639), DictEntry.mk (PyData.keyHash p (Str.ofString "substring_i")) (Value.str (Str.ofString "substring_i") 645) (Value.int (-1) 641), DictEntry.mk (PyData.keyHash p (Str.ofString "result")) (Value.str (Str.ofString "result") 646) (Value.int 1 642)] 4) #[]
noncomputable def o294_0 (p : Params) : Obj := Obj.mk (Value.type "list") Option.none (Data.seq #[Value.ref 286, Value.ref 289, Value.ref 292]) #[]
noncomputable def o227_5 (p : Params) : Obj := Obj.mk (Value.type "dict") Option.none (Data.dict #[DictEntry.mk (PyData.keyHash p (Str.ofString "__module__")) (Value.str (Str.ofString "__module__") 482) (Value.str (Str.ofString "snowballstemmer.indonesian_stemmer") 473), DictEntry.mk (PyData.keyHash p (Str.ofString "__qualname__")) (Value.str (Str.ofString "__qualname__") 484) (Value.str (Str.ofString "IndonesianStemmer") 483), DictEntry.mk (PyData.keyHash p (Str.ofString "__firstlineno__")) (Value.str (Str.ofString "__firstlineno__") 486) (Value.int 206 485), DictEntry.mk (PyData.keyHash p (Str.ofString "g_vowel")) (Value.str (Str.ofString "g_vowel") 497) (Value.ref 232), DictEntry.mk (PyData.keyHash p (Str.ofString "I_prefix")) (Value.str (Str.ofString "I_prefix") 499) (Value.int 0 498), DictEntry.mk (PyData.keyHash p (Str.ofString "I_measure")) (Value.str (Str.ofString "I_measure") 501) (Value.int 0 500), DictEntry.mk (PyData.keyHash p (Str.ofString "r_remove_particle")) (Value.str (Str.ofString "r_remove_particle") 508) (Value.ref 239), DictEntry.mk (PyData.keyHash p (Str.ofString "r_remove_possessive_pronoun")) (Value.str (Str.ofString "r_remove_possessive_pronoun") 515) (Value.ref 246), DictEntry.mk (PyData.keyHash p (Str.ofString "r_remove_suffix")) (Value.str (Str.ofString "r_remove_suffix") 524) (Value.ref 253), DictEntry.mk (PyData.keyHash p (Str.ofString "r_remove_first_order_prefix")) (Value.str (Str.ofString "r_remove_first_order_prefix") 540) (Value.ref 260), DictEntry.mk (PyData.keyHash p (Str.ofString "r_remove_second_order_prefix")) (Value.str (Str.ofString "r_remove_second_order_prefix") 550) (Value.ref 267), DictEntry.mk (PyData.keyHash p (Str.ofString "_stem")) (Value.str (Str.ofString "_stem") 567) (Value.ref 274), DictEntry.mk (PyData.keyHash p (Str.ofString "a_0")) (Value.str (Str.ofString "a_0") 610) (Value.ref 284), DictEntry.mk (PyData.keyHash p (Str.ofString "a_1")) (Value.str (Str.ofString "a_1") 653) (Value.ref 294), DictEntry.mk (PyData.keyHash p (Str.ofString "a_2")) (Value.str (Str.ofString "a_2") 682) (Value.ref 301)] 15) #[]
noncomputable def o295_0 (p : Params) : Obj := Obj.mk (Value.type "dict") Option.none (Data.dict #[DictEntry.mk (PyData.keyHash p (Str.ofString "s")) (Value.str (Str.ofString "s") 663) (Value.str (Str.ofString "i") 654), DictEntry.mk (PyData.keyHash p (Str.ofString "substring_i")) (Value.str (Str.ofString "substring_i") 665) (Value.int (-1) 656), DictEntry.mk (PyData.keyHash p (Str.ofString "result")) (Value.str (Str.ofString "result") 667) (Value.int 2 657)] 3) #[]
noncomputable def o296_0 (p : Params) : Obj := Obj.mk (Value.ref 220) (Option.some 295) Data.plain #[]
noncomputable def o297_0 (p : Params) : Obj := Obj.mk (Value.type "frame") Option.none (Data.dict #[DictEntry.mk (PyData.keyHash p (Str.ofString "self")) (Value.str (Str.ofString "self") 658) (Value.ref 296), DictEntry.mk (PyData.keyHash p (Str.ofString "s")) (Value.str (Str.ofString "s") 659) (Value.str (Str.ofString "i") 654), DictEntry.mk (PyData.keyHash p (Str.ofString "substring_i")) (Value.str (Str.ofString "substring_i") 660) (Value.int (-1) 656), DictEntry.mk (PyData.keyHash p (Str.ofString "result")) (Value.str (Str.ofString "result") 661) (Value.int 2 657)] 4) #[]
noncomputable def o298_0 (p : Params) : Obj := Obj.mk (Value.type "dict") Option.none (Data.dict #[DictEntry.mk (PyData.keyHash p (Str.ofString "s")) (Value.str (Str.ofString "s") 677) (Value.str (Str.ofString "an") 668), DictEntry.mk (PyData.keyHash p (Str.ofString "substring_i")) (Value.str (Str.ofString "substring_i") 679) (Value.int (-1) 670), DictEntry.mk (PyData.keyHash p (Str.ofString "result")) (Value.str (Str.ofString "result") 681) (Value.int 1 671)] 3) #[]
noncomputable def o299_0 (p : Params) : Obj := Obj.mk (Value.ref 220) (Option.some 298) Data.plain #[]
noncomputable def o300_0 (p : Params) : Obj := Obj.mk (Value.type "frame") Option.none (Data.dict #[DictEntry.mk (PyData.keyHash p (Str.ofString "self")) (Value.str (Str.ofString "self") 672) (Value.ref 299), DictEntry.mk (PyData.keyHash p (Str.ofString "s")) (Value.str (Str.ofString "s") 673) (Value.str (Str.ofString "an") 668), DictEntry.mk (PyData.keyHash p (Str.ofString "substring_i")) (Value.str (Str.ofString "substring_i") 674) (Value.int (-1) 670), DictEntry.mk (PyData.keyHash p (Str.ofString "result")) (Value.str (Str.ofString "result") 675) (Value.int 1 671)] 4) #[]
noncomputable def o301_0 (p : Params) : Obj := Obj.mk (Value.type "list") Option.none (Data.seq #[Value.ref 296, Value.ref 299]) #[]
noncomputable def o227_6 (p : Params) : Obj := Obj.mk (Value.type "dict") Option.none (Data.dict #[DictEntry.mk (PyData.keyHash p (Str.ofString "__module__")) (Value.str (Str.ofString "__module__") 482) (Value.str (Str.ofString "snowballstemmer.indonesian_stemmer") 473), DictEntry.mk (PyData.keyHash p (Str.ofString "__qualname__")) (Value.str (Str.ofString "__qualname__") 484) (Value.str (Str.ofString "IndonesianStemmer") 483), DictEntry.mk (PyData.keyHash p (Str.ofString "__firstlineno__")) (Value.str (Str.ofString "__firstlineno__") 486) (Value.int 206 485), DictEntry.mk (PyData.keyHash p (Str.ofString "g_vowel")) (Value.str (Str.ofString "g_vowel") 497) (Value.ref 232), DictEntry.mk (PyData.keyHash p (Str.ofString "I_prefix")) (Value.str (Str.ofString "I_prefix") 499) (Value.int 0 498), DictEntry.mk (PyData.keyHash p (Str.ofString "I_measure")) (Value.str (Str.ofString "I_measure") 501) (Value.int 0 500), DictEntry.mk (PyData.keyHash p (Str.ofString "r_remove_particle")) (Value.str (Str.ofString "r_remove_particle") 508) (Value.ref 239), DictEntry.mk (PyData.keyHash p (Str.ofString "r_remove_possessive_pronoun")) (Value.str (Str.ofString "r_remove_possessive_pronoun") 515) (Value.ref 246), DictEntry.mk (PyData.keyHash p (Str.ofString "r_remove_suffix")) (Value.str (Str.ofString "r_remove_suffix") 524) (Value.ref 253), DictEntry.mk (PyData.keyHash p (Str.ofString "r_remove_first_order_prefix")) (Value.str (Str.ofString "r_remove_first_order_prefix") 540) (Value.ref 260), DictEntry.mk (PyData.keyHash p (Str.ofString "r_remove_second_order_prefix")) (Value.str (Str.ofString "r_remove_second_order_prefix") 550) (Value.ref 267), DictEntry.mk (PyData.keyHash p (Str.ofString "_stem")) (Value.str (Str.ofString "_stem") 567) (Value.ref 274), DictEntry.mk (PyData.keyHash p (Str.ofString "a_0")) (Value.str (Str.ofString "a_0") 610) (Value.ref 284), DictEntry.mk (PyData.keyHash p (Str.ofString "a_1")) (Value.str (Str.ofString "a_1") 653) (Value.ref 294), DictEntry.mk (PyData.keyHash p (Str.ofString "a_2")) (Value.str (Str.ofString "a_2") 682) (Value.ref 301), DictEntry.mk (PyData.keyHash p (Str.ofString "a_3")) (Value.str (Str.ofString "a_3") 819) (Value.ref 332)] 16) #[]
noncomputable def o302_0 (p : Params) : Obj := Obj.mk (Value.type "dict") Option.none (Data.dict #[DictEntry.mk (PyData.keyHash p (Str.ofString "s")) (Value.str (Str.ofString "s") 692) (Value.str (Str.ofString "di") 683), DictEntry.mk (PyData.keyHash p (Str.ofString "substring_i")) (Value.str (Str.ofString "substring_i") 694) (Value.int (-1) 685), DictEntry.mk (PyData.keyHash p (Str.ofString "result")) (Value.str (Str.ofString "result") 696) (Value.int 1 686)] 3) #[]
noncomputable def o303_0 (p : Params) : Obj := Obj.mk (Value.ref 220) (Option.some 302) Data.plain #[]
noncomputable def o304_0 (p : Params) : Obj := Obj.mk (Value.type "frame") Option.none (Data.dict #[DictEntry.mk (PyData.keyHash p (Str.ofString "self")) (Value.str (Str.ofString "self") 687) (Value.ref 303), DictEntry.mk (PyData.keyHash p (Str.ofString "s")) (Value.str (Str.ofString "s") 688) (Value.str (Str.ofString "di") 683), DictEntry.mk (PyData.keyHash p (Str.ofString "substring_i")) (Value.str (Str.ofString "substring_i") 689) (Value.int (-1) 685), DictEntry.mk (PyData.keyHash p (Str.ofString "result")) (Value.str (Str.ofString "result") 690) (Value.int 1 686)] 4) #[]
noncomputable def o305_0 (p : Params) : Obj := Obj.mk (Value.type "dict") Option.none (Data.dict #[DictEntry.mk (PyData.keyHash p (Str.ofString "s")) (Value.str (Str.ofString "s") 706) (Value.str (Str.ofString "ke") 697), DictEntry.mk (PyData.keyHash p (Str.ofString "substring_i")) (Value.str (Str.ofString "substring_i") 708) (Value.int (-1) 699), DictEntry.mk (PyData.keyHash p (Str.ofString "result")) (Value.str (Str.ofString "result") 710) (Value.int 3 700)] 3) #[]
noncomputable def o306_0 (p : Params) : Obj := Obj.mk (Value.ref 220) (Option.some 305) Data.plain #[]
noncomputable def o307_0 (p : Params) : Obj := Obj.mk (Value.type "frame") Option.none (Data.dict #[DictEntry.mk (PyData.keyHash p (Str.ofString "self")) (Value.str (Str.ofString "self") 701) (Value.ref 306), DictEntry.mk (PyData.keyHash p (Str.ofString "s")) (Value.str (Str.ofString "s") 702) (Value.str (Str.ofString "ke") 697), DictEntry.mk (PyData.keyHash p (Str.ofString "substring_i")) (Value.str (Str.ofString "substring_i") 703) (Value.int (-1) 699), DictEntry.mk (PyData.keyHash p (Str.ofString "result")) (Value.str (Str.ofString "result") 704) (Value.int 3 700)] 4) #[]
noncomputable def o308_0 (p : Params) : Obj := Obj.mk (Value.type "dict") Option.none (Data.dict #[DictEntry.mk (PyData.keyHash p (Str.ofString "s")) (Value.str (Str.ofString "s") 720) (Value.str (Str.ofString "me") 711), DictEntry.mk (PyData.keyHash p (Str.ofString "substring_i")) (Value.str (Str.ofString "substring_i") 722) (Value.int (-1) 713), DictEntry.mk (PyData.keyHash p (Str.ofString "result")) (Value.str (Str.ofString "result") 724) (Value.int 1 714)] 3) #[]
noncomputable def o309_0 (p : Params) : Obj := Obj.mk (Value.ref 220) (Option.some 308) Data.plain #[]
noncomputable def o310_0 (p : Params) : Obj := Obj.mk (Value.type "frame") Option.none (Data.dict #[DictEntry.mk (PyData.keyHash p (Str.ofString "self")) (Value.str (Str.ofString "self") 715) (Value.ref 309), DictEntry.mk (PyData.keyHash p (Str.ofString "s")) (Value.str (Str.ofString "s") 716) (Value.str (Str.ofString "me") 711), DictEntry.mk (PyData.keyHash p (Str.ofString "substring_i")) (Value.str (Str.ofString "substring_i") 717) (Value.int (-1) 713), DictEntry.mk (PyData.keyHash p (Str.ofString "result")) (Value.str (Str.ofString "result") 718) (Value.int 1 714)] 4) #[]
noncomputable def o311_0 (p : Params) : Obj := Obj.mk (Value.type "dict") Option.none (Data.dict #[DictEntry.mk (PyData.keyHash p (Str.ofString "s")) (Value.str (Str.ofString "s") 733) (Value.str (Str.ofString "mem") 725), DictEntry.mk (PyData.keyHash p (Str.ofString "substring_i")) (Value.str (Str.ofString "substring_i") 735) (Value.int 2 726), DictEntry.mk (PyData.keyHash p (Str.ofString "result")) (Value.str (Str.ofString "result") 737) (Value.int 5 727)] 3) #[]
noncomputable def o312_0 (p : Params) : Obj := Obj.mk (Value.ref 220) (Option.some 311) Data.plain #[]
noncomputable def o313_0 (p : Params) : Obj := Obj.mk (Value.type "frame") Option.none (Data.dict #[DictEntry.mk (PyData.keyHash p (Str.ofString "self")) (Value.str (Str.ofString "self") 728) (Value.ref 312), DictEntry.mk (PyData.keyHash p (Str.ofString "s")) (Value.str (Str.ofString "s") 729) (Value.str (Str.ofString "mem") 725), DictEntry.mk (PyData.keyHash p (Str.ofString "substring_i")) (Value.str (Str.ofString "substring_i") 730) (Value.int 2 726), DictEntry.mk (PyData.keyHash p (Str.ofString "result")) (Value.str (Str.ofString "result") 731) (Value.int 5 727)] 4) #[]
noncomputable def o314_0 (p : Params) : Obj := Obj.mk (Value.type "dict") Option.none (Data.dict #[DictEntry.mk (PyData.keyHash p (Str.ofString "s")) (Value.str (Str.ofString "s") 746) (Value.str (Str.ofString "men") 738), DictEntry.mk (PyData.keyHash p (Str.ofString "substring_i")) (Value.str (Str.ofString "substring_i") 748) (Value.int 2 739), DictEntry.mk (PyData.keyHash p (Str.ofString "result")) (Value.str (Str.ofString "result") 750) (Value.int 2 740)] 3) #[]
noncomputable def o315_0 (p : Params) : Obj := Obj.mk (Value.ref 220) (Option.some 314) Data.plain #[]
noncomputable def o316_0 (p : Params) : Obj := Obj.mk (Value.type "frame") Option.none (Data.dict #[DictEntry.mk (PyData.keyHash p (Str.ofString "self")) (Value.str (Str.ofString "self") 741) (Value.ref 315), DictEntry.mk (PyData.keyHash p (Str.ofString "s")) (Value.str (Str.ofString "s") 742) (Value.str (Str.ofString "men") 738), DictEntry.mk (PyData.keyHash p (Str.ofString "substring_i")) (Value.str (Str.ofString "substring_i") 743) (Value.int 2 739), DictEntry.mk (PyData.keyHash p (Str.ofString "result")) (Value.str (Str.ofString "result") 744) (Value.int 2 740)] 4) #[]
noncomputable def o317_0 (p : Params) : Obj := Obj.mk (Value.type "dict") Option.none (Data.dict #[DictEntry.mk (PyData.keyHash p (Str.ofString "s")) (Value.str (Str.ofString "s") 759) (Value.str (Str.ofString "meng") 751), DictEntry.mk (PyData.keyHash p (Str.ofString "substring_i")) (Value.str (Str.ofString "substring_i") 761) (Value.int 4 752), DictEntry.mk (PyData.keyHash p (Str.ofString "result")) (Value.str (Str.ofString "result") 763) (Value.int 1 753)] 3) #[]
noncomputable def o318_0 (p : Params) : Obj := Obj.mk (Value.ref 220) (Option.some 317) Data.plain #[]
noncomputable def o319_0 (p : Params) : Obj := Obj.mk (Value.type "frame") Option.none (Data.dict #[DictEntry.mk (PyData.keyHash p (Str.ofString "self")) (Value.str (Str.ofString "self") 754) (Value.ref 318), DictEntry.mk (PyData.keyHash p (Str.ofString "s")) (Value.str (Str.ofString "s") 755) (Value.str (Str.ofString "meng") 751), DictEntry.mk (PyData.keyHash p (Str.ofString "substring_i")) (Value.str (Str.ofString "substring_i") 756) (Value.int 4 752), DictEntry.mk (PyData.keyHash p (Str.ofString "result")) (Value.str (Str.ofString "result") 757) (Value.int 1 753)] 4) #[]
noncomputable def o320_0 (p : Params) : Obj := Obj.mk (Value.type "dict") Option.none (Data.dict #[DictEntry.mk (PyData.keyHash p (Str.ofString "s")) (Value.str (Str.ofString "s") 773) (Value.str (Str.ofString "pem") 764), DictEntry.mk (PyData.keyHash p (Str.ofString "substring_i")) (Value.str (Str.ofString "substring_i") 775) (Value.int (-1) 766), DictEntry.mk (PyData.keyHash p (Str.ofString "result")) (Value.str (Str.ofString "result") 777) (Value.int 6 767)] 3) #[]
noncomputable def o321_0 (p : Params) : Obj := Obj.mk (Value.ref 220) (Option.some 320) Data.plain #[]
noncomputable def o322_0 (p : Params) : Obj := Obj.mk (Value.type "frame") Option.none (Data.dict #[DictEntry.mk (PyData.keyHash p (Str.ofString "self")) (Value.str (Str.ofString "self") 768) (Value.ref 321), DictEntry.mk (PyData.keyHash p (Str.ofString "s")) (Value.str (Str.ofString "s") 769) (Value.str (Str.ofString "pem") 764), DictEntry.mk (PyData.keyHash p (Str.ofString "substring_i")) (Value.str (Str.ofString "substring_i") 770) (Value.int (-1) 766), DictEntry.mk (PyData.keyHash p (Str.ofString "result")) (Value.str (Str.ofString "result") 771) (Value.int 6 767)] 4) #[]
noncomputable def o323_0 (p : Params) : Obj := Obj.mk (Value.type "dict") Option.none (Data.dict #[DictEntry.mk (PyData.keyHash p (Str.ofString "s")) (Value.str (Str.ofString "s") 787) (Value.str (Str.ofString "pen") 778), DictEntry.mk (PyData.keyHash p (Str.ofString "substring_i")) (Value.str (Str.ofString "substring_i") 789) (Value.int (-1) 780), DictEntry.mk (PyData.keyHash p (Str.ofString "result")) (Value.str (Str.ofString "result") 791) (Value.int 4 781)] 3) #[]
noncomputable def o324_0 (p : Params) : Obj := Obj.mk (Value.ref 220) (Option.some 323) Data.plain #[]
noncomputable def o325_0 (p : Params) : Obj := Obj.mk (Value.type "frame") Option.none (Data.dict #[DictEntry.mk (PyData.keyHash p (Str.ofString "self")) (Value.str (Str.ofString "self") 782) (Value.ref 324), DictEntry.mk (PyData.keyHash p (Str.ofString "s")) (Value.str (Str.ofString "s") 783) (Value.str (Str.ofString "pen") 778), DictEntry.mk (PyData.keyHash p (Str.ofString "substring_i")) (Value.str (Str.ofString "substring_i") 784) (Value.int (-1) 780), DictEntry.mk (PyData.keyHash p (Str.ofString "result")) (Value.str (Str.ofString "result") 785) (Value.int 4 781)] 4) #[]
noncomputable def o326_0 (p : Params) : Obj := Obj.mk (Value.type "dict") Option.none (Data.dict #[DictEntry.mk (PyData.keyHash p (Str.ofString "s")) (Value.str (Str.ofString "s") 800) (Value.str (Str.ofString "peng") 792), DictEntry.mk (PyData.keyHash p (Str.ofString "substring_i")) (Value.str (Str.ofString "substring_i") 802) (Value.int 7 793), DictEntry.mk (PyData.keyHash p (Str.ofString "result")) (Value.str (Str.ofString "result") 804) (Value.int 3 794)] 3) #[]
noncomputable def o327_0 (p : Params) : Obj := Obj.mk (Value.ref 220) (Option.some 326) Data.plain #[]
noncomputable def o328_0 (p : Params) : Obj := Obj.mk (Value.type "frame") Option.none (Data.dict #[DictEntry.mk (PyData.keyHash p (Str.ofString "self")) (Value.str (Str.ofString "self") 795) (Value.ref 327), DictEntry.mk (PyData.keyHash p (Str.ofString "s")) (Value.str (Str.ofString "s") 796) (Value.str (Str.ofString "peng") 792), DictEntry.mk (PyData.keyHash p (Str.ofString "substring_i")) (Value.str (Str.ofString "substring_i") 797) (Value.int 7 793), DictEntry.mk (PyData.keyHash p (Str.ofString "result")) (Value.str (Str.ofString "result") 798) (Value.int 3 794)] 4) #[]
noncomputable def o329_0 (p : Params) : Obj := Obj.mk (Value.type "dict") Option.none (Data.dict #[DictEntry.mk (PyData.keyHash p (Str.ofString "s")) (Value.str (Str.ofString "s") 814) (Value.str (Str.ofString "ter") 805), DictEntry.mk (PyData.keyHash p (Str.ofString "substring_i")) (Value.str (Str.ofString "substring_i") 816) (Value.int (-1) 807), DictEntry.mk (PyData.keyHash p (Str.ofString "result")) (Value.str (Str.ofString "result") 818) (Value.int 1 808)] 3) #[]
noncomputable def o330_0 (p : Params) : Obj := Obj.mk (Value.ref 220) (Option.some 329) Data.plain #[]
noncomputable def o331_0 (p : Params) : Obj := Obj.mk (Value.type "frame") Option.none (Data.dict #[DictEntry.mk (PyData.keyHash p (Str.ofString "self")) (Value.str (Str.ofString "self") 809) (Value.ref 330), DictEntry.mk (PyData.keyHash p (Str.ofString "s")) (Value.str (Str.ofString "s") 810) (Value.str (Str.ofString "ter") 805), DictEntry.mk (PyData.keyHash p (Str.ofString "substring_i")) (Value.str (Str.ofString "substring_i") 811) (Value.int (-1) 807), DictEntry.mk (PyData.keyHash p (Str.ofString "result")) (Value.str (Str.ofString "result") 812) (Value.int 1 808)] 4) #[]
noncomputable def o332_0 (p : Params) : Obj := Obj.mk (Value.type "list") Option.none (Data.seq #[Value.ref 303, Value.ref 306, Value.ref 309, Value.ref 312, Value.ref 315, Value.ref 318, Value.ref 321, Value.ref 324, Value.ref 327, Value.ref 330]) #[]
noncomputable def o227_7 (p : Params) : Obj := Obj.mk (Value.type "dict") Option.none (Data.dict #[DictEntry.mk (PyData.keyHash p (Str.ofString "__module__")) (Value.str (Str.ofString "__module__") 482) (Value.str (Str.ofString "snowballstemmer.indonesian_stemmer") 473), DictEntry.mk (PyData.keyHash p (Str.ofString "__qualname__")) (Value.str (Str.ofString "__qualname__") 484) (Value.str (Str.ofString "IndonesianStemmer") 483), DictEntry.mk (PyData.keyHash p (Str.ofString "__firstlineno__")) (Value.str (Str.ofString "__firstlineno__") 486) (Value.int 206 485), DictEntry.mk (PyData.keyHash p (Str.ofString "g_vowel")) (Value.str (Str.ofString "g_vowel") 497) (Value.ref 232), DictEntry.mk (PyData.keyHash p (Str.ofString "I_prefix")) (Value.str (Str.ofString "I_prefix") 499) (Value.int 0 498), DictEntry.mk (PyData.keyHash p (Str.ofString "I_measure")) (Value.str (Str.ofString "I_measure") 501) (Value.int 0 500), DictEntry.mk (PyData.keyHash p (Str.ofString "r_remove_particle")) (Value.str (Str.ofString "r_remove_particle") 508) (Value.ref 239), DictEntry.mk (PyData.keyHash p (Str.ofString "r_remove_possessive_pronoun")) (Value.str (Str.ofString "r_remove_possessive_pronoun") 515) (Value.ref 246), DictEntry.mk (PyData.keyHash p (Str.ofString "r_remove_suffix")) (Value.str (Str.ofString "r_remove_suffix") 524) (Value.ref 253), DictEntry.mk (PyData.keyHash p (Str.ofString "r_remove_first_order_prefix")) (Value.str (Str.ofString "r_remove_first_order_prefix") 540) (Value.ref 260), DictEntry.mk (PyData.keyHash p (Str.ofString "r_remove_second_order_prefix")) (Value.str (Str.ofString "r_remove_second_order_prefix") 550) (Value.ref 267), DictEntry.mk (PyData.keyHash p (Str.ofString "_stem")) (Value.str (Str.ofString "_stem") 567) (Value.ref 274), DictEntry.mk (PyData.keyHash p (Str.ofString "a_0")) (Value.str (Str.ofString "a_0") 610) (Value.ref 284), DictEntry.mk (PyData.keyHash p (Str.ofString "a_1")) (Value.str (Str.ofString "a_1") 653) (Value.ref 294), DictEntry.mk (PyData.keyHash p (Str.ofString "a_2")) (Value.str (Str.ofString "a_2") 682) (Value.ref 301), DictEntry.mk (PyData.keyHash p (Str.ofString "a_3")) (Value.str (Str.ofString "a_3") 819) (Value.ref 332), DictEntry.mk (PyData.keyHash p (Str.ofString "a_4")) (Value.str (Str.ofString "a_4") 848) (Value.ref 339)] 17) #[]
noncomputable def o333_0 (p : Params) : Obj := Obj.mk (Value.type "dict") Option.none (Data.dict #[DictEntry.mk (PyData.keyHash p (Str.ofString "s")) (Value.str (Str.ofString "s") 829) (Value.str (Str.ofString "be") 820), DictEntry.mk (PyData.keyHash p (Str.ofString "substring_i")) (Value.str (Str.ofString "substring_i") 831) (Value.int (-1) 822), DictEntry.mk (PyData.keyHash p (Str.ofString "result")) (Value.str (Str.ofString "result") 833) (Value.int 2 823)] 3) #[]
noncomputable def o334_0 (p : Params) : Obj := Obj.mk (Value.ref 220) (Option.some 333) Data.plain #[]
noncomputable def o335_0 (p : Params) : Obj := Obj.mk (Value.type "frame") Option.none (Data.dict #[DictEntry.mk (PyData.keyHash p (Str.ofString "self")) (Value.str (Str.ofString "self") 824) (Value.ref 334), DictEntry.mk (PyData.keyHash p (Str.ofString "s")) (Value.str (Str.ofString "s") 825) (Value.str (Str.ofString "be") 820), DictEntry.mk (PyData.keyHash p (Str.ofString "substring_i")) (Value.str (Str.ofString "substring_i") 826) (Value.int (-1) 822), DictEntry.mk (PyData.keyHash p (Str.ofString "result")) (Value.str (Str.ofString "result") 827) (Value.int 2 823)] 4) #[]
noncomputable def o336_0 (p : Params) : Obj := Obj.mk (Value.type "dict") Option.none (Data.dict #[DictEntry.mk (PyData.keyHash p (Str.ofString "s")) (Value.str (Str.ofString "s") 843) (Value.str (Str.ofString "pe") 834), DictEntry.mk (PyData.keyHash p (Str.ofString "substring_i")) (Value.str (Str.ofString "substring_i") 845) (Value.int (-1) 836), DictEntry.mk (PyData.keyHash p (Str.ofString "result")) (Value.str (Str.ofString "result") 847) (Value.int 1 837)] 3) #[]
noncomputable def o337_0 (p : Params) : Obj := Obj.mk (Value.ref 220) (Option.some 336) Data.plain #[]
noncomputable def o338_0 (p : Params) : Obj := Obj.mk (Value.type "frame") Option.none (Data.dict #[DictEntry.mk (PyData.keyHash p (Str.ofString "self")) (Value.str (Str.ofString "self") 838) (Value.ref 337), DictEntry.mk (PyData.keyHash p (Str.ofString "s")) (Value.str (Str.ofString "s") 839) (Value.str (Str.ofString "pe") 834), DictEntry.mk (PyData.keyHash p (Str.ofString "substring_i")) (Value.str (Str.ofString "substring_i") 840) (Value.int (-1) 836), DictEntry.mk (PyData.keyHash p (Str.ofString "result")) (Value.str (Str.ofString "result") 841) (Value.int 1 837)] 4) #[]
noncomputable def o339_0 (p : Params) : Obj := Obj.mk (Value.type "list") Option.none (Data.seq #[Value.ref 334, Value.ref 337]) #[]
noncomputable def o3_4 (p : Params) : Obj := Obj.mk (Value.type "dict") Option.none (Data.dict #[DictEntry.mk (PyData.keyHash p (Str.ofString "__name__")) (Value.str (Str.ofString "__name__") 165) (Value.str (Str.ofString "snowballstemmer.indonesian_stemmer") 473), DictEntry.mk (PyData.keyHash p (Str.ofString "__doc__")) (Value.str (Str.ofString "__doc__") 166) Value.none, DictEntry.mk (PyData.keyHash p (Str.ofString "__package__")) (Value.str (Str.ofString "__package__") 167) Value.none, DictEntry.mk (PyData.keyHash p (Str.ofString "__loader__")) (Value.str (Str.ofString "__loader__") 168) (Value.builtin "__main__.__loader__#opaque"), DictEntry.mk (PyData.keyHash p (Str.ofString "__spec__")) (Value.str (Str.ofString "__spec__") 169) Value.none, DictEntry.mk (PyData.keyHash p (Str.ofString "__annotations__")) (Value.str (Str.ofString "__annotations__") 170) (Value.ref 6), DictEntry.mk (PyData.keyHash p (Str.ofString "__builtins__")) (Value.str (Str.ofString "__builtins__") 171) (Value.ref 4), DictEntry.mk (PyData.keyHash p (Str.ofString "__file__")) (Value.str (Str.ofString "__file__") 173) (Value.str (Str.ofString "/claim/cut.py") 172), DictEntry.mk (PyData.keyHash p (Str.ofString "__cached__")) (Value.str (Str.ofString "__cached__") 174) Value.none, DictEntry.mk (PyData.keyHash p (Str.ofString "_wall")) (Value.str (Str.ofString "_wall") 193) (Value.ref 21), DictEntry.mk (PyData.keyHash p (Str.ofString "BaseStemmer")) (Value.str (Str.ofString "BaseStemmer") 437) (Value.ref 199), DictEntry.mk (PyData.keyHash p (Str.ofString "Among")) (Value.str (Str.ofString "Among") 472) (Value.ref 220), DictEntry.mk (PyData.keyHash p (Str.ofString "IndonesianStemmer")) (Value.str (Str.ofString "IndonesianStemmer") 858) (Value.ref 342)] 13) #[]
noncomputable def o199_1 (p : Params) : Obj := Obj.mk (Value.type "type") Option.none (Data.cls (ClassData.mk (Str.ofString "BaseStemmer") [Value.type "object"] [Value.ref 199, Value.type "object"] 198 (Str.ofString "BaseStemmer") Bool.true [] [Value.ref 342] Bool.false Option.none Bool.false)) #[Option.none, Option.none, Option.some (Value.str (Str.ofString "BaseStemmer") 196), Option.some (Value.str (Str.ofString "BaseStemmer") 204), Option.some (Value.builtin "object.__new__"), Option.some (Value.bool Bool.true)]
noncomputable def o227_8 (p : Params) : Obj := Obj.mk (Value.type "dict") Option.none (Data.dict #[DictEntry.mk (PyData.keyHash p (Str.ofString "__module__")) (Value.str (Str.ofString "__module__") 482) (Value.str (Str.ofString "snowballstemmer.indonesian_stemmer") 473), DictEntry.mk (PyData.keyHash p (Str.ofString "__qualname__")) (Value.str (Str.ofString "__qualname__") 484) (Value.str (Str.ofString "IndonesianStemmer") 483), DictEntry.mk (PyData.keyHash p (Str.ofString "__firstlineno__")) (Value.str (Str.ofString "__firstlineno__") 486) (Value.int 206 485), DictEntry.mk (PyData.keyHash p (Str.ofString "g_vowel")) (Value.str (Str.ofString "g_vowel") 497) (Value.ref 232), DictEntry.mk (PyData.keyHash p (Str.ofString "I_prefix")) (Value.str (Str.ofString "I_prefix") 499) (Value.int 0 498), DictEntry.mk (PyData.keyHash p (Str.ofString "I_measure")) (Value.str (Str.ofString "I_measure") 501) (Value.int 0 500), DictEntry.mk (PyData.keyHash p (Str.ofString "r_remove_particle")) (Value.str (Str.ofString "r_remove_particle") 508) (Value.ref 239), DictEntry.mk (PyData.keyHash p (Str.ofString "r_remove_possessive_pronoun")) (Value.str (Str.ofString "r_remove_possessive_pronoun") 515) (Value.ref 246), DictEntry.mk (PyData.keyHash p (Str.ofString "r_remove_suffix")) (Value.str (Str.ofString "r_remove_suffix") 524) (Value.ref 253), DictEntry.mk (PyData.keyHash p (Str.ofString "r_remove_first_order_prefix")) (Value.str (Str.ofString "r_remove_first_order_prefix") 540) (Value.ref 260), DictEntry.mk (PyData.keyHash p (Str.ofString "r_remove_second_order_prefix")) (Value.str (Str.ofString "r_remove_second_order_prefix") 550) (Value.ref 267), DictEntry.mk (PyData.keyHash p (Str.ofString "_stem")) (Value.str (Str.ofString "_stem") 567) (Value.ref 274), DictEntry.mk (PyData.keyHash p (Str.ofString "a_0")) (Value.str (Str.ofString "a_0") 610) (Value.ref 284), DictEntry.mk (PyData.keyHash p (Str.ofString "a_1")) (Value.str (Str.ofString "a_1") 653) (Value.ref 294), DictEntry.mk (PyData.keyHash p (Str.ofString "a_2")) (Value.str (Str.ofString "a_2") 682) (Value.ref 301), DictEntry.mk (PyData.keyHash p (Str.ofString "a_3")) (Value.str (Str.ofString "a_3") 819) (Value.ref 332), DictEntry.mk (PyData.keyHash p (Str.ofString "a_4")) (Value.str (Str.ofString "a_4") 848) (Value.ref 339), DictEntry.mk (PyData.keyHash p (Str.ofString "__static_attributes__")) (Value.str (Str.ofString "__static_attributes__") 855) (Value.ref 340)] 18) #[]
noncomputable def o340_0 (p : Params) : Obj := Obj.mk (Value.type "tuple") Option.none (Data.seq #[Value.str (Str.ofString "I_measure") 849, Value.str (Str.ofString "I_prefix") 850, Value.str (Str.ofString "bra") 851, Value.str (Str.ofString "cursor") 852, Value.str (Str.ofString "ket") 853, Value.str (Str.ofString "limit_backward") 854]) #[]
noncomputable def o341_0 (p : Params) : Obj := Obj.mk (Value.type "dict") Option.none (Data.dict #[DictEntry.mk (PyData.keyHash p (Str.ofString "__module__")) (Value.str (Str.ofString "__module__") 482) (Value.str (Str.ofString "snowballstemmer.indonesian_stemmer") 473), DictEntry.mk (PyData.keyHash p (Str.ofString "__firstlineno__")) (Value.str (Str.ofString "__firstlineno__") 486) (Value.int 206 485), DictEntry.mk (PyData.keyHash p (Str.ofString "g_vowel")) (Value.str (Str.ofString "g_vowel") 497) (Value.ref 232), DictEntry.mk (PyData.keyHash p (Str.ofString "I_prefix")) (Value.str (Str.ofString "I_prefix") 499) (Value.int 0 498), DictEntry.mk (PyData.keyHash p (Str.ofString "I_measure")) (Value.str (Str.ofString "I_measure") 501) (Value.int 0 500), DictEntry.mk (PyData.keyHash p (Str.ofString "r_remove_particle")) (Value.str (Str.ofString "r_remove_particle") 508) (Value.ref 239), DictEntry.mk (PyData.keyHash p (Str.ofString "r_remove_possessive_pronoun")) (Value.str (Str.ofString "r_remove_possessive_pronoun") 515) (Value.ref 246), DictEntry.mk (PyData.keyHash p (Str.ofString "r_remove_suffix")) (Value.str (Str.ofString "r_remove_suffix") 524) (Value.ref 253), DictEntry.mk (PyData.keyHash p (Str.ofString "r_remove_first_order_prefix")) (Value.str (Str.ofString "r_remove_first_order_prefix") 540) (Value.ref 260), DictEntry.mk (PyData.keyHash p (Str.ofString "r_remove_second_order_prefix")) (Value.str (Str.ofString "r_remove_second_order_prefix") 550) (Value.ref 267), DictEntry.mk (PyData.keyHash p (Str.ofString "_stem")) (Value.str (Str.ofString "_stem") 567) (Value.ref 274), DictEntry.mk (PyData.keyHash p (Str.ofString "a_0")) (Value.str (Str.ofString "a_0") 610) (Value.ref 284), DictEntry.mk (PyData.keyHash p (Str.ofString "a_1")) (Value.str (Str.ofString "a_1") 653) (Value.ref 294), DictEntry.mk (PyData.keyHash p (Str.ofString "a_2")) (Value.str (Str.ofString "a_2") 682) (Value.ref 301), DictEntry.mk (PyData.keyHash p (Str.ofString "a_3")) (Value.str (Str.ofString "a_3") 819) (Value.ref 332), DictEntry.mk (PyData.keyHash p (Str.ofString "a_4")) (Value.str (Str.ofString "a_4") 848) (Value.ref 339), DictEntry.mk (PyData.keyHash p (Str.ofString "__static_attributes__")) (Value.str (Str.ofString "__static_attributes__") 855) (Value.ref 340), DictEntry.mk (PyData.keyHash p (Str.ofString "__doc__")) (Value.str (Str.ofString "__doc__") 856) Value.none] 2) #[]
noncomputable def o342_0 (p : Params) : Obj := Obj.mk (Value.type "type") Option.none (Data.cls (ClassData.mk (Str.ofString "IndonesianStemmer") [Value.ref 199] [Value.ref 342, Value.ref 199, Value.type "object"] 341 (Str.ofString "IndonesianStemmer") Bool.true [] [] Bool.false Option.none Bool.false)) #[Option.some (Value.ref 225), Option.none, Option.some (Value.str (Str.ofString "IndonesianStemmer") 475), Option.some (Value.str (Str.ofString "IndonesianStemmer") 483), Option.some (Value.builtin "object.__new__"), Option.some (Value.bool Bool.true)]
noncomputable def o343_0 (p : Params) : Obj := Obj.mk (Value.type "super") Option.none (Data.fields #[Value.ref 342, Value.ref 342, Value.ref 342]) #[]
noncomputable def o344_0 (p : Params) : Obj := Obj.mk (Value.type "builtin_function_or_method") Option.none (Data.fields #[Value.builtin "object.__init_subclass__", Value.ref 342]) #[]
noncomputable def o2_1 (p : Params) : Obj := Obj.mk Value.none Option.none (Data.dict #[DictEntry.mk (PyData.keyHash p (Str.ofString "type.__subclasses__.Exception.0")) (Value.str (Str.ofString "type.__subclasses__.Exception.0") 875) (Value.int 354 0), DictEntry.mk (PyData.keyHash p (Str.ofString "type.__subclasses__.Exception.n")) (Value.str (Str.ofString "type.__subclasses__.Exception.n") 876) (Value.int 2 0), DictEntry.mk (PyData.keyHash p (Str.ofString "type.__subclasses__.Exception.1")) (Value.str (Str.ofString "type.__subclasses__.Exception.1") 895) (Value.int 367 0)] 3) #[]
noncomputable def o3_5 (p : Params) : Obj := Obj.mk (Value.type "dict") Option.none (Data.dict #[DictEntry.mk (PyData.keyHash p (Str.ofString "__name__")) (Value.str (Str.ofString "__name__") 165) (Value.str (Str.ofString "snowballstemmer.indonesian_stemmer") 473), DictEntry.mk (PyData.keyHash p (Str.ofString "__doc__")) (Value.str (Str.ofString "__doc__") 166) Value.none, DictEntry.mk (PyData.keyHash p (Str.ofString "__package__")) (Value.str (Str.ofString "__package__") 167) Value.none, DictEntry.mk (PyData.keyHash p (Str.ofString "__loader__")) (Value.str (Str.ofString "__loader__") 168) (Value.builtin "__main__.__loader__#opaque"), DictEntry.mk (PyData.keyHash p (Str.ofString "__spec__")) (Value.str (Str.ofString "__spec__") 169) Value.none, DictEntry.mk (PyData.keyHash p (Str.ofString "__annotations__")) (Value.str (Str.ofString "__annotations__") 170) (Value.ref 6), DictEntry.mk (PyData.keyHash p (Str.ofString "__builtins__")) (Value.str (Str.ofString "__builtins__") 171) (Value.ref 4), DictEntry.mk (PyData.keyHash p (Str.ofString "__file__")) (Value.str (Str.ofString "__file__") 173) (Value.str (Str.ofString "/claim/cut.py") 172), DictEntry.mk (PyData.keyHash p (Str.ofString "__cached__")) (Value.str (Str.ofString "__cached__") 174) Value.none, DictEntry.mk (PyData.keyHash p (Str.ofString "_wall")) (Value.str (Str.ofString "_wall") 193) (Value.ref 21), DictEntry.mk (PyData.keyHash p (Str.ofString "BaseStemmer")) (Value.str (Str.ofString "BaseStemmer") 437) (Value.ref 199), DictEntry.mk (PyData.keyHash p (Str.ofString "Among")) (Value.str (Str.ofString "Among") 472) (Value.ref 220), DictEntry.mk (PyData.keyHash p (Str.ofString "IndonesianStemmer")) (Value.str (Str.ofString "IndonesianStemmer") 858) (Value.ref 342), DictEntry.mk (PyData.keyHash p (Str.ofString "lab0")) (Value.str (Str.ofString "lab0") 878) (Value.ref 354), DictEntry.mk (PyData.keyHash p (Str.ofString "lab1")) (Value.str (Str.ofString "lab1") 898) (Value.ref 367)] 15) #[]
noncomputable def o12_5 (p : Params) : Obj := Obj.mk Value.none Option.none (Data.fields #[Value.int 1 0, Value.int 0 0, Value.ref 20, Value.int 5 0, Value.int 0 0, Value.ref 27, Value.int 199 0, Value.int 0 0, Value.ref 209, Value.int 206 0, Value.int 0 0, Value.ref 230, Value.int 516 0, Value.int 0 0, Value.ref 350, Value.int 518 0, Value.int 0 0, Value.ref 363]) #[]
noncomputable def o345_0 (p : Params) : Obj := Obj.mk (Value.type "tuple") Option.none (Data.seq #[Value.type "Exception"]) #[]
noncomputable def o346_0 (p : Params) : Obj := Obj.mk (Value.type "builtin_function_or_method") Option.none (Data.fields #[Value.builtin "type.__prepare__", Value.type "type"]) #[]
noncomputable def o347_0 (p : Params) : Obj := Obj.mk (Value.type "dict") Option.none (Data.dict #[DictEntry.mk (PyData.keyHash p (Str.ofString "__module__")) (Value.str (Str.ofString "__module__") 866) (Value.str (Str.ofString "snowballstemmer.indonesian_stemmer") 473), DictEntry.mk (PyData.keyHash p (Str.ofString "__qualname__")) (Value.str (Str.ofString "__qualname__") 868) (Value.str (Str.ofString "lab0") 867), DictEntry.mk (PyData.keyHash p (Str.ofString "__firstlineno__")) (Value.str (Str.ofString "__firstlineno__") 870) (Value.int 516 869), DictEntry.mk (PyData.keyHash p (Str.ofString "__static_attributes__")) (Value.str (Str.ofString "__static_attributes__") 871) (Value.ref 352)] 4) #[]
noncomputable def o348_0 (p : Params) : Obj := Obj.mk (Value.type "tuple") Option.none (Data.seq #[]) #[]
noncomputable def o349_0 (p : Params) : Obj := Obj.mk Value.none Option.none (Data.fields #[]) #[]
noncomputable def o350_0 (p : Params) : Obj := Obj.mk (Value.type "code") Option.none (Data.fields #[Value.str (Str.ofString "lab0") 861, Value.str (Str.ofString "lab0") 862, Value.str (Str.ofString "/claim/cut.py") 863, Value.int 516 0, Value.int 0 0, Value.int 0 0, Value.int 0 0, Value.int 0 0, Value.ref 348, Value.bool Bool.false, Value.int 181 0, Value.ref 349, Value.none, Value.none, Value.none, Value.none, Value.int 864 0, Value.int 516 0, Value.str (Str.ofString "/claim/cut.py") 865]) #[]
noncomputable def o351_0 (p : Params) : Obj := Obj.mk (Value.type "frame") Option.none Data.plain #[Option.some (Value.ref 350), Option.some (Value.ref 3), Option.some (Value.ref 347), Option.none, Option.some (Value.str (Str.ofString "snowballstemmer.indonesian_stemmer") 473), Option.none, Option.some (Value.ref 0)]
noncomputable def o352_0 (p : Params) : Obj := Obj.mk (Value.type "tuple") Option.none (Data.seq #[]) #[]
noncomputable def o353_0 (p : Params) : Obj := Obj.mk (Value.type "dict") Option.none (Data.dict #[DictEntry.mk (PyData.keyHash p (Str.ofString "__module__")) (Value.str (Str.ofString "__module__") 866) (Value.str (Str.ofString "snowballstemmer.indonesian_stemmer") 473), DictEntry.mk (PyData.keyHash p (Str.ofString "__firstlineno__")) (Value.str (Str.ofString "__firstlineno__") 870) (Value.int 516 869), DictEntry.mk (PyData.keyHash p (Str.ofString "__static_attributes__")) (Value.str (Str.ofString "__static_attributes__") 871) (Value.ref 352), DictEntry.mk (PyData.keyHash p (Str.ofString "__weakref__")) (Value.str (Str.ofString "__weakref__") 873) (Value.ref 355), DictEntry.mk (PyData.keyHash p (Str.ofString "__doc__")) (Value.str (Str.ofString "__doc__") 874) Value.none] 3) #[]
noncomputable def o354_0 (p : Params) : Obj := Obj.mk (Value.type "type") Option.none (Data.cls (ClassData.mk (Str.ofString "lab0") [Value.type "Exception"] [Value.ref 354, Value.type "Exception", Value.type "BaseException", Value.type "object"] 353 (Str.ofString "lab0") Bool.true [] [] Bool.false Option.none Bool.false)) #[Option.some (Value.ref 345), Option.none, Option.some (Value.str (Str.ofString "lab0") 859), Option.some (Value.str (Str.ofString "lab0") 867), Option.some (Value.builtin "Exception.__new__"), Option.some (Value.bool Bool.true)]
noncomputable def o355_0 (p : Params) : Obj := Obj.mk (Value.type "getset_descriptor") Option.none (Data.fields #[Value.str (Str.ofString "__weakref__") 872, Value.ref 354, Value.builtin "ExceptionGroup.__weakref__", Value.none]) #[]
noncomputable def o356_0 (p : Params) : Obj := Obj.mk (Value.type "super") Option.none (Data.fields #[Value.ref 354, Value.ref 354, Value.ref 354]) #[]
noncomputable def o357_0 (p : Params) : Obj := Obj.mk (Value.type "builtin_function_or_method") Option.none (Data.fields #[Value.builtin "object.__init_subclass__", Value.ref 354]) #[]
noncomputable def o358_0 (p : Params) : Obj := Obj.mk (Value.type "tuple") Option.none (Data.seq #[Value.type "Exception"]) #[]
noncomputable def o359_0 (p : Params) : Obj := Obj.mk (Value.type "builtin_function_or_method") Option.none (Data.fields #[Value.builtin "type.__prepare__", Value.type "type"]) #[]
noncomputable def o360_0 (p : Params) : Obj := Obj.mk (Value.type "dict") Option.none (Data.dict #[DictEntry.mk (PyData.keyHash p (Str.ofString "__module__")) (Value.str (Str.ofString "__module__") 886) (Value.str (Str.ofString "snowballstemmer.indonesian_stemmer") 473), DictEntry.mk (PyData.keyHash p (Str.ofString "__qualname__")) (Value.str (Str.ofString "__qualname__") 888) (Value.str (Str.ofString "lab1") 887), DictEntry.mk (PyData.keyHash p (Str.ofString "__firstlineno__")) (Value.str (Str.ofString "__firstlineno__") 890) (Value.int 518 889), DictEntry.mk (PyData.keyHash p (Str.ofString "__static_attributes__")) (Value.str (Str.ofString "__static_attributes__") 891) (Value.ref 365)] 4) #[]
noncomputable def o361_0 (p : Params) : Obj := Obj.mk (Value.type "tuple") Option.none (Data.seq #[]) #[]
noncomputable def o362_0 (p : Params) : Obj := Obj.mk Value.none Option.none (Data.fields #[]) #[]
noncomputable def o363_0 (p : Params) : Obj := Obj.mk (Value.type "code") Option.none (Data.fields #[Value.str (Str.ofString "lab1") 881, Value.str (Str.ofString "lab1") 882, Value.str (Str.ofString "/claim/cut.py") 883, Value.int 518 0, Value.int 0 0, Value.int 0 0, Value.int 0 0, Value.int 0 0, Value.ref 361, Value.bool Bool.false, Value.int 181 0, Value.ref 362, Value.none, Value.none, Value.none, Value.none, Value.int 884 0, Value.int 518 0, Value.str (Str.ofString "/claim/cut.py") 885]) #[]
noncomputable def o364_0 (p : Params) : Obj := Obj.mk (Value.type "frame") Option.none Data.plain #[Option.some (Value.ref 363), Option.some (Value.ref 3), Option.some (Value.ref 360), Option.none, Option.some (Value.str (Str.ofString "snowballstemmer.indonesian_stemmer") 473), Option.none, Option.some (Value.ref 0)]
noncomputable def o365_0 (p : Params) : Obj := Obj.mk (Value.type "tuple") Option.none (Data.seq #[]) #[]
noncomputable def o366_0 (p : Params) : Obj := Obj.mk (Value.type "dict") Option.none (Data.dict #[DictEntry.mk (PyData.keyHash p (Str.ofString "__module__")) (Value.str (Str.ofString "__module__") 886) (Value.str (Str.ofString "snowballstemmer.indonesian_stemmer") 473), DictEntry.mk (PyData.keyHash p (Str.ofString "__firstlineno__")) (Value.str (Str.ofString "__firstlineno__") 890) (Value.int 518 889), DictEntry.mk (PyData.keyHash p (Str.ofString "__static_attributes__")) (Value.str (Str.ofString "__static_attributes__") 891) (Value.ref 365), DictEntry.mk (PyData.keyHash p (Str.ofString "__weakref__")) (Value.str (Str.ofString "__weakref__") 893) (Value.ref 368), DictEntry.mk (PyData.keyHash p (Str.ofString "__doc__")) (Value.str (Str.ofString "__doc__") 894) Value.none] 3) #[]
noncomputable def o367_0 (p : Params) : Obj := Obj.mk (Value.type "type") Option.none (Data.cls (ClassData.mk (Str.ofString "lab1") [Value.type "Exception"] [Value.ref 367, Value.type "Exception", Value.type "BaseException", Value.type "object"] 366 (Str.ofString "lab1") Bool.true [] [] Bool.false Option.none Bool.false)) #[Option.some (Value.ref 358), Option.none, Option.some (Value.str (Str.ofString "lab1") 879), Option.some (Value.str (Str.ofString "lab1") 887), Option.some (Value.builtin "Exception.__new__"), Option.some (Value.bool Bool.true)]
noncomputable def o368_0 (p : Params) : Obj := Obj.mk (Value.type "getset_descriptor") Option.none (Data.fields #[Value.str (Str.ofString "__weakref__") 892, Value.ref 367, Value.builtin "ExceptionGroup.__weakref__", Value.none]) #[]
noncomputable def o369_0 (p : Params) : Obj := Obj.mk (Value.type "super") Option.none (Data.fields #[Value.ref 367, Value.ref 367, Value.ref 367]) #[]
noncomputable def o370_0 (p : Params) : Obj := Obj.mk (Value.type "builtin_function_or_method") Option.none (Data.fields #[Value.builtin "object.__init_subclass__", Value.ref 367]) #[]
noncomputable def o3_6 (p : Params) : Obj := Obj.mk (Value.type "dict") Option.none (Data.dict #[DictEntry.mk (PyData.keyHash p (Str.ofString "__name__")) (Value.str (Str.ofString "__name__") 165) (Value.str (Str.ofString "law_iu0023_01") 899), DictEntry.mk (PyData.keyHash p (Str.ofString "__doc__")) (Value.str (Str.ofString "__doc__") 166) Value.none, DictEntry.mk (PyData.keyHash p (Str.ofString "__package__")) (Value.str (Str.ofString "__package__") 167) Value.none, DictEntry.mk (PyData.keyHash p (Str.ofString "__loader__")) (Value.str (Str.ofString "__loader__") 168) (Value.builtin "__main__.__loader__#opaque"), DictEntry.mk (PyData.keyHash p (Str.ofString "__spec__")) (Value.str (Str.ofString "__spec__") 169) Value.none, DictEntry.mk (PyData.keyHash p (Str.ofString "__annotations__")) (Value.str (Str.ofString "__annotations__") 170) (Value.ref 6), DictEntry.mk (PyData.keyHash p (Str.ofString "__builtins__")) (Value.str (Str.ofString "__builtins__") 171) (Value.ref 4), DictEntry.mk (PyData.keyHash p (Str.ofString "__file__")) (Value.str (Str.ofString "__file__") 173) (Value.str (Str.ofString "/claim/cut.py") 172), DictEntry.mk (PyData.keyHash p (Str.ofString "__cached__")) (Value.str (Str.ofString "__cached__") 174) Value.none, DictEntry.mk (PyData.keyHash p (Str.ofString "_wall")) (Value.str (Str.ofString "_wall") 193) (Value.ref 21), DictEntry.mk (PyData.keyHash p (Str.ofString "BaseStemmer")) (Value.str (Str.ofString "BaseStemmer") 437) (Value.ref 199), DictEntry.mk (PyData.keyHash p (Str.ofString "Among")) (Value.str (Str.ofString "Among") 472) (Value.ref 220), DictEntry.mk (PyData.keyHash p (Str.ofString "IndonesianStemmer")) (Value.str (Str.ofString "IndonesianStemmer") 858) (Value.ref 342), DictEntry.mk (PyData.keyHash p (Str.ofString "lab0")) (Value.str (Str.ofString "lab0") 878) (Value.ref 354), DictEntry.mk (PyData.keyHash p (Str.ofString "lab1")) (Value.str (Str.ofString "lab1") 898) (Value.ref 367), DictEntry.mk (PyData.keyHash p (Str.ofString "_law_vowels")) (Value.str (Str.ofString "_law_vowels") 906) (Value.ref 377), DictEntry.mk (PyData.keyHash p (Str.ofString "_law_openers")) (Value.str (Str.ofString "_law_openers") 929) (Value.ref 378), DictEntry.mk (PyData.keyHash p (Str.ofString "_law_signs")) (Value.str (Str.ofString "_law_signs") 963) (Value.ref 379), DictEntry.mk (PyData.keyHash p (Str.ofString "_law_closers")) (Value.str (Str.ofString "_law_closers") 975) (Value.ref 380)] 19) #[]
noncomputable def o12_6 (p : Params) : Obj := Obj.mk Value.none Option.none (Data.fields #[Value.int 1 0, Value.int 0 0, Value.ref 20, Value.int 5 0, Value.int 0 0, Value.ref 27, Value.int 199 0, Value.int 0 0, Value.ref 209, Value.int 206 0, Value.int 0 0, Value.ref 230, Value.int 516 0, Value.int 0 0, Value.ref 350, Value.int 518 0, Value.int 0 0, Value.ref 363, Value.int 521 0, Value.int 0 0, Value.ref 376]) #[]
noncomputable def o371_0 (p : Params) : Obj := Obj.mk (Value.type "tuple") Option.none (Data.seq #[]) #[]
noncomputable def o372_0 (p : Params) : Obj := Obj.mk Value.none Option.none (Data.fields #[]) #[]
noncomputable def o373_0 (p : Params) : Obj := Obj.mk (Value.type "tuple") Option.none (Data.seq #[]) #[]
noncomputable def o374_0 (p : Params) : Obj := Obj.mk (Value.type "tuple") Option.none (Data.seq #[]) #[]
noncomputable def o375_0 (p : Params) : Obj := Obj.mk Value.none Option.none (Data.func (FuncData.mk (Str.ofString "_law_vowels") (Str.ofString "_law_vowels") (fnP (topSt 10)) (FuncBody.stmts (fnB (topSt 10))) (fnS (topSt 10)) 0 [] Value.none Value.none Value.none Value.none Option.none Value.none Value.none 0)) #[]
noncomputable def o376_0 (p : Params) : Obj := Obj.mk (Value.type "code") Option.none (Data.fields #[Value.str (Str.ofString "_law_vowels") 901, Value.str (Str.ofString "_law_vowels") 902, Value.str (Str.ofString "/claim/cut.py") 903, Value.int 521 0, Value.int 0 0, Value.int 0 0, Value.int 0 0, Value.int 3 0, Value.ref 371, Value.bool Bool.true, Value.int 181 0, Value.ref 372, Value.none, Value.ref 373, Value.ref 374, Value.ref 375, Value.int 904 0, Value.int 521 0, Value.str (Str.ofString "/claim/cut.py") 905]) #[]
noncomputable def o377_0 (p : Params) : Obj := Obj.mk (Value.type "function") Option.none (Data.func (FuncData.mk (Str.ofString "_law_vowels") (Str.ofString "_law_vowels") (fnP (topSt 10)) (FuncBody.stmts (fnB (topSt 10))) (fnS (topSt 10)) 3 [] Value.none Value.none Value.none (Value.str (Str.ofString "law_iu0023_01") 899) Option.none (Value.ref 376) Value.none 0)) #[]
noncomputable def o378_0 (p : Params) : Obj := Obj.mk (Value.type "list") Option.none (Data.seq #[Value.str (Str.ofString "") 907, Value.str (Str.ofString "di") 908, Value.str (Str.ofString "ke") 909, Value.str (Str.ofString "me") 910, Value.str (Str.ofString "mem") 911, Value.str (Str.ofString "men") 912, Value.str (Str.ofString "meny") 913, Value.str (Str.ofString "meng") 914, Value.str (Str.ofString "pe") 915, Value.str (Str.ofString "pem") 916, Value.str (Str.ofString "pen") 917, Value.str (Str.ofString "peny") 918, Value.str (Str.ofString "peng") 919, Value.str (Str.ofString "ter") 920, Value.str (Str.ofString "be") 921, Value.str (Str.ofString "ber") 922, Value.str (Str.ofString "bel") 923, Value.str (Str.ofString "belajar") 924, Value.str (Str.ofString "beker") 925, Value.str (Str.ofString "per") 926, Value.str (Str.ofString "pel") 927, Value.str (Str.ofString "pelajar") 928]) #[]
noncomputable def o379_0 (p : Params) : Obj := Obj.mk (Value.type "list") Option.none (Data.seq #[Value.str (Str.ofString "") 930, Value.str (Str.ofString "a") 931, Value.str (Str.ofString "b") 932, Value.str (Str.ofString "c") 933, Value.str (Str.ofString "d") 934, Value.str (Str.ofString "e") 935, Value.str (Str.ofString "f") 936, Value.str (Str.ofString "g") 937, Value.str (Str.ofString "h") 938, Value.str (Str.ofString "i") 939, Value.str (Str.ofString "j") 940, Value.str (Str.ofString "k") 941, Value.str (Str.ofString "l") 942, Value.str (Str.ofString "m") 943, Value.str (Str.ofString "n") 944, Value.str (Str.ofString "o") 945, Value.str (Str.ofString "p") 946, Value.str (Str.ofString "q") 947, Value.str (Str.ofString "r") 948, Value.str (Str.ofString "s") 949, Value.str (Str.ofString "t") 950, Value.str (Str.ofString "u") 951, Value.str (Str.ofString "v") 952, Value.str (Str.ofString "w") 953, Value.str (Str.ofString "x") 954, Value.str (Str.ofString "y") 955, Value.str (Str.ofString "z") 956, Value.str (Str.ofString "A") 957, Value.str (Str.ofString "é") 958, Value.str (Str.ofString "-") 959, Value.str (Str.ofString "er") 960, Value.str (Str.ofString "ng") 961, Value.str (Str.ofString "ny") 962]) #[]
noncomputable def o380_0 (p : Params) : Obj := Obj.mk (Value.type "list") Option.none (Data.seq #[Value.str (Str.ofString "") 964, Value.str (Str.ofString "kah") 965, Value.str (Str.ofString "lah") 966, Value.str (Str.ofString "pun") 967, Value.str (Str.ofString "nya") 968, Value.str (Str.ofString "ku") 969, Value.str (Str.ofString "mu") 970, Value.str (Str.ofString "kan") 971, Value.str (Str.ofString "an") 972, Value.str (Str.ofString "i") 973, Value.str (Str.ofString "si") 974]) #[]
noncomputable def o3_7 (p : Params) : Obj := Obj.mk (Value.type "dict") Option.none (Data.dict #[DictEntry.mk (PyData.keyHash p (Str.ofString "__name__")) (Value.str (Str.ofString "__name__") 165) (Value.str (Str.ofString "law_iu0023_01") 899), DictEntry.mk (PyData.keyHash p (Str.ofString "__doc__")) (Value.str (Str.ofString "__doc__") 166) Value.none, DictEntry.mk (PyData.keyHash p (Str.ofString "__package__")) (Value.str (Str.ofString "__package__") 167) Value.none, DictEntry.mk (PyData.keyHash p (Str.ofString "__loader__")) (Value.str (Str.ofString "__loader__") 168) (Value.builtin "__main__.__loader__#opaque"), DictEntry.mk (PyData.keyHash p (Str.ofString "__spec__")) (Value.str (Str.ofString "__spec__") 169) Value.none, DictEntry.mk (PyData.keyHash p (Str.ofString "__annotations__")) (Value.str (Str.ofString "__annotations__") 170) (Value.ref 6), DictEntry.mk (PyData.keyHash p (Str.ofString "__builtins__")) (Value.str (Str.ofString "__builtins__") 171) (Value.ref 4), DictEntry.mk (PyData.keyHash p (Str.ofString "__file__")) (Value.str (Str.ofString "__file__") 173) (Value.str (Str.ofString "/claim/cut.py") 172), DictEntry.mk (PyData.keyHash p (Str.ofString "__cached__")) (Value.str (Str.ofString "__cached__") 174) Value.none, DictEntry.mk (PyData.keyHash p (Str.ofString "_wall")) (Value.str (Str.ofString "_wall") 193) (Value.ref 21), DictEntry.mk (PyData.keyHash p (Str.ofString "BaseStemmer")) (Value.str (Str.ofString "BaseStemmer") 437) (Value.ref 199), DictEntry.mk (PyData.keyHash p (Str.ofString "Among")) (Value.str (Str.ofString "Among") 472) (Value.ref 220), DictEntry.mk (PyData.keyHash p (Str.ofString "IndonesianStemmer")) (Value.str (Str.ofString "IndonesianStemmer") 858) (Value.ref 342), DictEntry.mk (PyData.keyHash p (Str.ofString "lab0")) (Value.str (Str.ofString "lab0") 878) (Value.ref 354), DictEntry.mk (PyData.keyHash p (Str.ofString "lab1")) (Value.str (Str.ofString "lab1") 898) (Value.ref 367), DictEntry.mk (PyData.keyHash p (Str.ofString "_law_vowels")) (Value.str (Str.ofString "_law_vowels") 906) (Value.ref 377), DictEntry.mk (PyData.keyHash p (Str.ofString "_law_openers")) (Value.str (Str.ofString "_law_openers") 929) (Value.ref 378), DictEntry.mk (PyData.keyHash p (Str.ofString "_law_signs")) (Value.str (Str.ofString "_law_signs") 963) (Value.ref 379), DictEntry.mk (PyData.keyHash p (Str.ofString "_law_closers")) (Value.str (Str.ofString "_law_closers") 975) (Value.ref 380), DictEntry.mk (PyData.keyHash p (Str.ofString "_law_particles")) (Value.str (Str.ofString "_law_particles") 982) (Value.ref 384), DictEntry.mk (PyData.keyHash p (Str.ofString "_law_owners")) (Value.str (Str.ofString "_law_owners") 989) (Value.ref 388), DictEntry.mk (PyData.keyHash p (Str.ofString "_law_firsts")) (Value.str (Str.ofString "_law_firsts") 995) (Value.ref 395), DictEntry.mk (PyData.keyHash p (Str.ofString "_law_sounds")) (Value.str (Str.ofString "_law_sounds") 1001) (Value.ref 402), DictEntry.mk (PyData.keyHash p (Str.ofString "_law_seconds")) (Value.str (Str.ofString "_law_seconds") 1007) (Value.ref 409)] 24) #[]
noncomputable def o12_7 (p : Params) : Obj := Obj.mk Value.none Option.none (Data.fields #[Value.int 1 0, Value.int 0 0, Value.ref 20, Value.int 5 0, Value.int 0 0, Value.ref 27, Value.int 199 0, Value.int 0 0, Value.ref 209, Value.int 206 0, Value.int 0 0, Value.ref 230, Value.int 516 0, Value.int 0 0, Value.ref 350, Value.int 518 0, Value.int 0 0, Value.ref 363, Value.int 521 0, Value.int 0 0, Value.ref 376, Value.int 528 0, Value.int 0 0, Value.ref 394, Value.int 530 0, Value.int 0 0, Value.ref 401, Value.int 532 0, Value.int 0 0, Value.ref 408]) #[]
noncomputable def o381_0 (p : Params) : Obj := Obj.mk (Value.type "tuple") Option.none (Data.seq #[Value.str (Str.ofString "kah") 976, Value.int 3 977]) #[]
noncomputable def o382_0 (p : Params) : Obj := Obj.mk (Value.type "tuple") Option.none (Data.seq #[Value.str (Str.ofString "lah") 978, Value.int 3 979]) #[]
noncomputable def o383_0 (p : Params) : Obj := Obj.mk (Value.type "tuple") Option.none (Data.seq #[Value.str (Str.ofString "pun") 980, Value.int 3 981]) #[]
noncomputable def o384_0 (p : Params) : Obj := Obj.mk (Value.type "list") Option.none (Data.seq #[Value.ref 381, Value.ref 382, Value.ref 383]) #[]
noncomputable def o385_0 (p : Params) : Obj := Obj.mk (Value.type "tuple") Option.none (Data.seq #[Value.str (Str.ofString "nya") 983, Value.int 3 984]) #[]
noncomputable def o386_0 (p : Params) : Obj := Obj.mk (Value.type "tuple") Option.none (Data.seq #[Value.str (Str.ofString "ku") 985, Value.int 2 986]) #[]
noncomputable def o387_0 (p : Params) : Obj := Obj.mk (Value.type "tuple") Option.none (Data.seq #[Value.str (Str.ofString "mu") 987, Value.int 2 988]) #[]
noncomputable def o388_0 (p : Params) : Obj := Obj.mk (Value.type "list") Option.none (Data.seq #[Value.ref 385, Value.ref 386, Value.ref 387]) #[]
noncomputable def o389_0 (p : Params) : Obj := Obj.mk (Value.type "tuple") Option.none (Data.seq #[]) #[]
noncomputable def o390_0 (p : Params) : Obj := Obj.mk Value.none Option.none (Data.fields #[]) #[]
noncomputable def o391_0 (p : Params) : Obj := Obj.mk (Value.type "tuple") Option.none (Data.seq #[]) #[]
noncomputable def o392_0 (p : Params) : Obj := Obj.mk (Value.type "tuple") Option.none (Data.seq #[]) #[]
noncomputable def o393_0 (p : Params) : Obj := Obj.mk Value.none Option.none (Data.func (FuncData.mk (Str.ofString "_law_firsts") (Str.ofString "_law_firsts") (fnP (topSt 10)) (FuncBody.stmts (fnB (topSt 16))) (fnS (topSt 10)) 0 [] Value.none Value.none Value.none Value.none Option.none Value.none Value.none 0)) #[]
noncomputable def o394_0 (p : Params) : Obj := Obj.mk (Value.type "code") Option.none (Data.fields #[Value.str (Str.ofString "_law_firsts") 990, Value.str (Str.ofString "_law_firsts") 991, Value.str (Str.ofString "/claim/cut.py") 992, Value.int 528 0, Value.int 0 0, Value.int 0 0, Value.int 0 0, Value.int 3 0, Value.ref 389, Value.bool Bool.true, Value.int 181 0, Value.ref 390, Value.none, Value.ref 391, Value.ref 392, Value.ref 393, Value.int 993 0, Value.int 528 0, Value.str (Str.ofString "/claim/cut.py") 994]) #[]
noncomputable def o395_0 (p : Params) : Obj := Obj.mk (Value.type "function") Option.none (Data.func (FuncData.mk (Str.ofString "_law_firsts") (Str.ofString "_law_firsts") (fnP (topSt 10)) (FuncBody.stmts (fnB (topSt 16))) (fnS (topSt 10)) 3 [] Value.none Value.none Value.none (Value.str (Str.ofString "law_iu0023_01") 899) Option.none (Value.ref 394) Value.none 0)) #[]
noncomputable def o396_0 (p : Params) : Obj := Obj.mk (Value.type "tuple") Option.none (Data.seq #[]) #[]
noncomputable def o397_0 (p : Params) : Obj := Obj.mk Value.none Option.none (Data.fields #[]) #[]
noncomputable def o398_0 (p : Params) : Obj := Obj.mk (Value.type "tuple") Option.none (Data.seq #[]) #[]
noncomputable def o399_0 (p : Params) : Obj := Obj.mk (Value.type "tuple") Option.none (Data.seq #[]) #[]
noncomputable def o400_0 (p : Params) : Obj := Obj.mk Value.none Option.none (Data.func (FuncData.mk (Str.ofString "_law_sounds") (Str.ofString "_law_sounds") (fnP (topSt 10)) (FuncBody.stmts (fnB (topSt 17))) (fnS (topSt 10)) 0 [] Value.none Value.none Value.none Value.none Option.none Value.none Value.none 0)) #[]
noncomputable def o401_0 (p : Params) : Obj := Obj.mk (Value.type "code") Option.none (Data.fields #[Value.str (Str.ofString "_law_sounds") 996, Value.str (Str.ofString "_law_sounds") 997, Value.str (Str.ofString "/claim/cut.py") 998, Value.int 530 0, Value.int 0 0, Value.int 0 0, Value.int 0 0, Value.int 3 0, Value.ref 396, Value.bool Bool.true, Value.int 181 0, Value.ref 397, Value.none, Value.ref 398, Value.ref 399, Value.ref 400, Value.int 999 0, Value.int 530 0, Value.str (Str.ofString "/claim/cut.py") 1000]) #[]
noncomputable def o402_0 (p : Params) : Obj := Obj.mk (Value.type "function") Option.none (Data.func (FuncData.mk (Str.ofString "_law_sounds") (Str.ofString "_law_sounds") (fnP (topSt 10)) (FuncBody.stmts (fnB (topSt 17))) (fnS (topSt 10)) 3 [] Value.none Value.none Value.none (Value.str (Str.ofString "law_iu0023_01") 899) Option.none (Value.ref 401) Value.none 0)) #[]
noncomputable def o403_0 (p : Params) : Obj := Obj.mk (Value.type "tuple") Option.none (Data.seq #[]) #[]
noncomputable def o404_0 (p : Params) : Obj := Obj.mk Value.none Option.none (Data.fields #[]) #[]
noncomputable def o405_0 (p : Params) : Obj := Obj.mk (Value.type "tuple") Option.none (Data.seq #[]) #[]
noncomputable def o406_0 (p : Params) : Obj := Obj.mk (Value.type "tuple") Option.none (Data.seq #[]) #[]
noncomputable def o407_0 (p : Params) : Obj := Obj.mk Value.none Option.none (Data.func (FuncData.mk (Str.ofString "_law_seconds") (Str.ofString "_law_seconds") (fnP (topSt 10)) (FuncBody.stmts (fnB (topSt 18))) (fnS (topSt 10)) 0 [] Value.none Value.none Value.none Value.none Option.none Value.none Value.none 0)) #[]
noncomputable def o408_0 (p : Params) : Obj := Obj.mk (Value.type "code") Option.none (Data.fields #[Value.str (Str.ofString "_law_seconds") 1002, Value.str (Str.ofString "_law_seconds") 1003, Value.str (Str.ofString "/claim/cut.py") 1004, Value.int 532 0, Value.int 0 0, Value.int 0 0, Value.int 0 0, Value.int 3 0, Value.ref 403, Value.bool Bool.true, Value.int 181 0, Value.ref 404, Value.none, Value.ref 405, Value.ref 406, Value.ref 407, Value.int 1005 0, Value.int 532 0, Value.str (Str.ofString "/claim/cut.py") 1006]) #[]
noncomputable def o409_0 (p : Params) : Obj := Obj.mk (Value.type "function") Option.none (Data.func (FuncData.mk (Str.ofString "_law_seconds") (Str.ofString "_law_seconds") (fnP (topSt 10)) (FuncBody.stmts (fnB (topSt 18))) (fnS (topSt 10)) 3 [] Value.none Value.none Value.none (Value.str (Str.ofString "law_iu0023_01") 899) Option.none (Value.ref 408) Value.none 0)) #[]
noncomputable def o3_8 (p : Params) : Obj := Obj.mk (Value.type "dict") Option.none (Data.dict #[DictEntry.mk (PyData.keyHash p (Str.ofString "__name__")) (Value.str (Str.ofString "__name__") 165) (Value.str (Str.ofString "law_iu0023_01") 899), DictEntry.mk (PyData.keyHash p (Str.ofString "__doc__")) (Value.str (Str.ofString "__doc__") 166) Value.none, DictEntry.mk (PyData.keyHash p (Str.ofString "__package__")) (Value.str (Str.ofString "__package__") 167) Value.none, DictEntry.mk (PyData.keyHash p (Str.ofString "__loader__")) (Value.str (Str.ofString "__loader__") 168) (Value.builtin "__main__.__loader__#opaque"), DictEntry.mk (PyData.keyHash p (Str.ofString "__spec__")) (Value.str (Str.ofString "__spec__") 169) Value.none, DictEntry.mk (PyData.keyHash p (Str.ofString "__annotations__")) (Value.str (Str.ofString "__annotations__") 170) (Value.ref 6), DictEntry.mk (PyData.keyHash p (Str.ofString "__builtins__")) (Value.str (Str.ofString "__builtins__") 171) (Value.ref 4), DictEntry.mk (PyData.keyHash p (Str.ofString "__file__")) (Value.str (Str.ofString "__file__") 173) (Value.str (Str.ofString "/claim/cut.py") 172), DictEntry.mk (PyData.keyHash p (Str.ofString "__cached__")) (Value.str (Str.ofString "__cached__") 174) Value.none, DictEntry.mk (PyData.keyHash p (Str.ofString "_wall")) (Value.str (Str.ofString "_wall") 193) (Value.ref 21), DictEntry.mk (PyData.keyHash p (Str.ofString "BaseStemmer")) (Value.str (Str.ofString "BaseStemmer") 437) (Value.ref 199), DictEntry.mk (PyData.keyHash p (Str.ofString "Among")) (Value.str (Str.ofString "Among") 472) (Value.ref 220), DictEntry.mk (PyData.keyHash p (Str.ofString "IndonesianStemmer")) (Value.str (Str.ofString "IndonesianStemmer") 858) (Value.ref 342), DictEntry.mk (PyData.keyHash p (Str.ofString "lab0")) (Value.str (Str.ofString "lab0") 878) (Value.ref 354), DictEntry.mk (PyData.keyHash p (Str.ofString "lab1")) (Value.str (Str.ofString "lab1") 898) (Value.ref 367), DictEntry.mk (PyData.keyHash p (Str.ofString "_law_vowels")) (Value.str (Str.ofString "_law_vowels") 906) (Value.ref 377), DictEntry.mk (PyData.keyHash p (Str.ofString "_law_openers")) (Value.str (Str.ofString "_law_openers") 929) (Value.ref 378), DictEntry.mk (PyData.keyHash p (Str.ofString "_law_signs")) (Value.str (Str.ofString "_law_signs") 963) (Value.ref 379), DictEntry.mk (PyData.keyHash p (Str.ofString "_law_closers")) (Value.str (Str.ofString "_law_closers") 975) (Value.ref 380), DictEntry.mk (PyData.keyHash p (Str.ofString "_law_particles")) (Value.str (Str.ofString "_law_particles") 982) (Value.ref 384), DictEntry.mk (PyData.keyHash p (Str.ofString "_law_owners")) (Value.str (Str.ofString "_law_owners") 989) (Value.ref 388), DictEntry.mk (PyData.keyHash p (Str.ofString "_law_firsts")) (Value.str (Str.ofString "_law_firsts") 995) (Value.ref 395), DictEntry.mk (PyData.keyHash p (Str.ofString "_law_sounds")) (Value.str (Str.ofString "_law_sounds") 1001) (Value.ref 402), DictEntry.mk (PyData.keyHash p (Str.ofString "_law_seconds")) (Value.str (Str.ofString "_law_seconds") 1007) (Value.ref 409), DictEntry.mk (PyData.keyHash p (Str.ofString "_law_borne")) (Value.str (Str.ofString "_law_borne") 1044) (Value.ref 410)] 25) #[]
noncomputable def o410_0 (p : Params) : Obj := Obj.mk (Value.type "dict") Option.none (Data.dict #[DictEntry.mk (PyData.keyHash p (Str.ofString "")) (Value.str (Str.ofString "") 1008) (Value.ref 415), DictEntry.mk (PyData.keyHash p (Str.ofString "di")) (Value.str (Str.ofString "di") 1017) (Value.ref 419), DictEntry.mk (PyData.keyHash p (Str.ofString "ke")) (Value.str (Str.ofString "ke") 1024) (Value.ref 421), DictEntry.mk (PyData.keyHash p (Str.ofString "per")) (Value.str (Str.ofString "per") 1027) (Value.ref 425), DictEntry.mk (PyData.keyHash p (Str.ofString "ber")) (Value.str (Str.ofString "ber") 1034) (Value.ref 428)] 5) #[]
noncomputable def o411_0 (p : Params) : Obj := Obj.mk (Value.type "tuple") Option.none (Data.seq #[Value.str (Str.ofString "kan") 1009, Value.int 3 1010]) #[]
noncomputable def o412_0 (p : Params) : Obj := Obj.mk (Value.type "tuple") Option.none (Data.seq #[Value.str (Str.ofString "an") 1011, Value.int 2 1012]) #[]
noncomputable def o413_0 (p : Params) : Obj := Obj.mk (Value.type "tuple") Option.none (Data.seq #[Value.str (Str.ofString "si") 1013, Value.int 0 1014]) #[]
noncomputable def o414_0 (p : Params) : Obj := Obj.mk (Value.type "tuple") Option.none (Data.seq #[Value.str (Str.ofString "i") 1015, Value.int 1 1016]) #[]
noncomputable def o415_0 (p : Params) : Obj := Obj.mk (Value.type "list") Option.none (Data.seq #[Value.ref 411, Value.ref 412, Value.ref 413, Value.ref 414]) #[]
noncomputable def o416_0 (p : Params) : Obj := Obj.mk (Value.type "tuple") Option.none (Data.seq #[Value.str (Str.ofString "kan") 1018, Value.int 3 1019]) #[]
noncomputable def o417_0 (p : Params) : Obj := Obj.mk (Value.type "tuple") Option.none (Data.seq #[Value.str (Str.ofString "si") 1020, Value.int 0 1021]) #[]
noncomputable def o418_0 (p : Params) : Obj := Obj.mk (Value.type "tuple") Option.none (Data.seq #[Value.str (Str.ofString "i") 1022, Value.int 1 1023]) #[]
noncomputable def o419_0 (p : Params) : Obj := Obj.mk (Value.type "list") Option.none (Data.seq #[Value.ref 416, Value.ref 417, Value.ref 418]) #[]
noncomputable def o420_0 (p : Params) : Obj := Obj.mk (Value.type "tuple") Option.none (Data.seq #[Value.str (Str.ofString "an") 1025, Value.int 2 1026]) #[]
noncomputable def o421_0 (p : Params) : Obj := Obj.mk (Value.type "list") Option.none (Data.seq #[Value.ref 420]) #[]
noncomputable def o422_0 (p : Params) : Obj := Obj.mk (Value.type "tuple") Option.none (Data.seq #[Value.str (Str.ofString "an") 1028, Value.int 2 1029]) #[]
noncomputable def o423_0 (p : Params) : Obj := Obj.mk (Value.type "tuple") Option.none (Data.seq #[Value.str (Str.ofString "si") 1030, Value.int 0 1031]) #[]
noncomputable def o424_0 (p : Params) : Obj := Obj.mk (Value.type "tuple") Option.none (Data.seq #[Value.str (Str.ofString "i") 1032, Value.int 1 1033]) #[]
noncomputable def o425_0 (p : Params) : Obj := Obj.mk (Value.type "list") Option.none (Data.seq #[Value.ref 422, Value.ref 423, Value.ref 424]) #[]
noncomputable def o426_0 (p : Params) : Obj := Obj.mk (Value.type "tuple") Option.none (Data.seq #[Value.str (Str.ofString "kan") 1035, Value.int 3 1036]) #[]
noncomputable def o427_0 (p : Params) : Obj := Obj.mk (Value.type "tuple") Option.none (Data.seq #[Value.str (Str.ofString "an") 1037, Value.int 2 1038]) #[]
noncomputable def o428_0 (p : Params) : Obj := Obj.mk (Value.type "list") Option.none (Data.seq #[Value.ref 426, Value.ref 427]) #[]
noncomputable def o3_9 (p : Params) : Obj := Obj.mk (Value.type "dict") Option.none (Data.dict #[DictEntry.mk (PyData.keyHash p (Str.ofString "__name__")) (Value.str (Str.ofString "__name__") 165) (Value.str (Str.ofString "law_iu0023_01") 899), DictEntry.mk (PyData.keyHash p (Str.ofString "__doc__")) (Value.str (Str.ofString "__doc__") 166) Value.none, DictEntry.mk (PyData.keyHash p (Str.ofString "__package__")) (Value.str (Str.ofString "__package__") 167) Value.none, DictEntry.mk (PyData.keyHash p (Str.ofString "__loader__")) (Value.str (Str.ofString "__loader__") 168) (Value.builtin "__main__.__loader__#opaque"), DictEntry.mk (PyData.keyHash p (Str.ofString "__spec__")) (Value.str (Str.ofString "__spec__") 169) Value.none, DictEntry.mk (PyData.keyHash p (Str.ofString "__annotations__")) (Value.str (Str.ofString "__annotations__") 170) (Value.ref 6), DictEntry.mk (PyData.keyHash p (Str.ofString "__builtins__")) (Value.str (Str.ofString "__builtins__") 171) (Value.ref 4), DictEntry.mk (PyData.keyHash p (Str.ofString "__file__")) (Value.str (Str.ofString "__file__") 173) (Value.str (Str.ofString "/claim/cut.py") 172), DictEntry.mk (PyData.keyHash p (Str.ofString "__cached__")) (Value.str (Str.ofString "__cached__") 174) Value.none, DictEntry.mk (PyData.keyHash p (Str.ofString "_wall")) (Value.str (Str.ofString "_wall") 193) (Value.ref 21), DictEntry.mk (PyData.keyHash p (Str.ofString "BaseStemmer")) (Value.str (Str.ofString "BaseStemmer") 437) (Value.ref 199), DictEntry.mk (PyData.keyHash p (Str.ofString "Among")) (Value.str (Str.ofString "Among") 472) (Value.ref 220), DictEntry.mk (PyData.keyHash p (Str.ofString "IndonesianStemmer")) (Value.str (Str.ofString "IndonesianStemmer") 858) (Value.ref 342), DictEntry.mk (PyData.keyHash p (Str.ofString "lab0")) (Value.str (Str.ofString "lab0") 878) (Value.ref 354), DictEntry.mk (PyData.keyHash p (Str.ofString "lab1")) (Value.str (Str.ofString "lab1") 898) (Value.ref 367), DictEntry.mk (PyData.keyHash p (Str.ofString "_law_vowels")) (Value.str (Str.ofString "_law_vowels") 906) (Value.ref 377), DictEntry.mk (PyData.keyHash p (Str.ofString "_law_openers")) (Value.str (Str.ofString "_law_openers") 929) (Value.ref 378), DictEntry.mk (PyData.keyHash p (Str.ofString "_law_signs")) (Value.str (Str.ofString "_law_signs") 963) (Value.ref 379), DictEntry.mk (PyData.keyHash p (Str.ofString "_law_closers")) (Value.str (Str.ofString "_law_closers") 975) (Value.ref 380), DictEntry.mk (PyData.keyHash p (Str.ofString "_law_particles")) (Value.str (Str.ofString "_law_particles") 982) (Value.ref 384), DictEntry.mk (PyData.keyHash p (Str.ofString "_law_owners")) (Value.str (Str.ofString "_law_owners") 989) (Value.ref 388), DictEntry.mk (PyData.keyHash p (Str.ofString "_law_firsts")) (Value.str (Str.ofString "_law_firsts") 995) (Value.ref 395), DictEntry.mk (PyData.keyHash p (Str.ofString "_law_sounds")) (Value.str (Str.ofString "_law_sounds") 1001) (Value.ref 402), DictEntry.mk (PyData.keyHash p (Str.ofString "_law_seconds")) (Value.str (Str.ofString "_law_seconds") 1007) (Value.ref 409), DictEntry.mk (PyData.keyHash p (Str.ofString "_law_borne")) (Value.str (Str.ofString "_law_borne") 1044) (Value.ref 410), DictEntry.mk (PyData.keyHash p (Str.ofString "_law_long")) (Value.str (Str.ofString "_law_long") 1050) (Value.ref 433), DictEntry.mk (PyData.keyHash p (Str.ofString "_law_less")) (Value.str (Str.ofString "_law_less") 1060) (Value.ref 440), DictEntry.mk (PyData.keyHash p (Str.ofString "_law_first")) (Value.str (Str.ofString "_law_first") 1075) (Value.ref 447), DictEntry.mk (PyData.keyHash p (Str.ofString "_law_second")) (Value.str (Str.ofString "_law_second") 1085) (Value.ref 454), DictEntry.mk (PyData.keyHash p (Str.ofString "_law_stem")) (Value.str (Str.ofString "_law_stem") 1098) (Value.ref 461), DictEntry.mk (PyData.keyHash p (Str.ofString "law")) (Value.str (Str.ofString "law") 1104) (Value.ref 466)] 31) #[]
noncomputable def o12_8 (p : Params) : Obj := Obj.mk Value.none Option.none (Data.fields #[Value.int 1 0, Value.int 0 0, Value.ref 20, Value.int 5 0, Value.int 0 0, Value.ref 27, Value.int 199 0, Value.int 0 0, Value.ref 209, Value.int 206 0, Value.int 0 0, Value.ref 230, Value.int 516 0, Value.int 0 0, Value.ref 350, Value.int 518 0, Value.int 0 0, Value.ref 363, Value.int 521 0, Value.int 0 0, Value.ref 376, Value.int 528 0, Value.int 0 0, Value.ref 394, Value.int 530 0, Value.int 0 0, Value.ref 401, Value.int 532 0, Value.int 0 0, Value.ref 408, Value.int 535 0, Value.int 0 0, Value.ref 432, Value.int 537 0, Value.int 0 0, Value.ref 439, Value.int 542 0, Value.int 0 0, Value.ref 446, Value.int 553 0, Value.int 0 0, Value.ref 453, Value.int 560 0, Value.int 0 0, Value.ref 460, Value.int 574 0, Value.int 0 0, Value.ref 465]) #[]
noncomputable def o429_0 (p : Params) : Obj := Obj.mk (Value.type "tuple") Option.none (Data.seq #[]) #[]
noncomputable def o430_0 (p : Params) : Obj := Obj.mk Value.none Option.none (Data.fields #[]) #[]
noncomputable def o431_0 (p : Params) : Obj := Obj.mk Value.none Option.none (Data.func (FuncData.mk (Str.ofString "_law_long") (Str.ofString "_law_long") (fnP (topSt 20)) (FuncBody.stmts (fnB (topSt 20))) (fnS (topSt 20)) 0 [] Value.none Value.none Value.none Value.none Option.none Value.none Value.none 0)) #[]
noncomputable def o432_0 (p : Params) : Obj := Obj.mk (Value.type "code") Option.none (Data.fields #[Value.str (Str.ofString "_law_long") 1045, Value.str (Str.ofString "_law_long") 1046, Value.str (Str.ofString "/claim/cut.py") 1047, Value.int 535 0, Value.int 1 0, Value.int 0 0, Value.int 0 0, Value.int 3 0, Value.ref 429, Value.bool Bool.true, Value.int 181 0, Value.ref 430, Value.none, Value.none, Value.none, Value.ref 431, Value.int 1048 0, Value.int 535 0, Value.str (Str.ofString "/claim/cut.py") 1049]) #[]
noncomputable def o433_0 (p : Params) : Obj := Obj.mk (Value.type "function") Option.none (Data.func (FuncData.mk (Str.ofString "_law_long") (Str.ofString "_law_long") (fnP (topSt 20)) (FuncBody.stmts (fnB (topSt 20))) (fnS (topSt 20)) 3 [] Value.none Value.none Value.none (Value.str (Str.ofString "law_iu0023_01") 899) Option.none (Value.ref 432) Value.none 0)) #[]
noncomputable def o434_0 (p : Params) : Obj := Obj.mk (Value.type "tuple") Option.none (Data.seq #[]) #[]
noncomputable def o435_0 (p : Params) : Obj := Obj.mk Value.none Option.none (Data.fields #[]) #[]
noncomputable def o436_0 (p : Params) : Obj := Obj.mk (Value.type "tuple") Option.none (Data.seq #[Value.str (Str.ofString "word") 1054, Value.str (Str.ofString "ends") 1055, Value.str (Str.ofString "end") 1056, Value.str (Str.ofString "gone") 1057]) #[]
noncomputable def o437_0 (p : Params) : Obj := Obj.mk (Value.type "tuple") Option.none (Data.seq #[]) #[]
noncomputable def o438_0 (p : Params) : Obj := Obj.mk Value.none Option.none (Data.func (FuncData.mk (Str.ofString "_law_less") (Str.ofString "_law_less") (fnP (topSt 21)) (FuncBody.stmts (fnB (topSt 21))) (fnS (topSt 21)) 0 [] Value.none Value.none Value.none Value.none Option.none Value.none Value.none 0)) #[]
noncomputable def o439_0 (p : Params) : Obj := Obj.mk (Value.type "code") Option.none (Data.fields #[Value.str (Str.ofString "_law_less") 1051, Value.str (Str.ofString "_law_less") 1052, Value.str (Str.ofString "/claim/cut.py") 1053, Value.int 537 0, Value.int 2 0, Value.int 0 0, Value.int 0 0, Value.int 3 0, Value.ref 434, Value.bool Bool.true, Value.int 181 0, Value.ref 435, Value.none, Value.ref 436, Value.ref 437, Value.ref 438, Value.int 1058 0, Value.int 537 0, Value.str (Str.ofString "/claim/cut.py") 1059]) #[]
noncomputable def o440_0 (p : Params) : Obj := Obj.mk (Value.type "function") Option.none (Data.func (FuncData.mk (Str.ofString "_law_less") (Str.ofString "_law_less") (fnP (topSt 21)) (FuncBody.stmts (fnB (topSt 21))) (fnS (topSt 21)) 3 [] Value.none Value.none Value.none (Value.str (Str.ofString "law_iu0023_01") 899) Option.none (Value.ref 439) Value.none 0)) #[]
noncomputable def o441_0 (p : Params) : Obj := Obj.mk (Value.type "tuple") Option.none (Data.seq #[]) #[]
noncomputable def o442_0 (p : Params) : Obj := Obj.mk Value.none Option.none (Data.fields #[]) #[]
noncomputable def o443_0 (p : Params) : Obj := Obj.mk (Value.type "tuple") Option.none (Data.seq #[Value.str (Str.ofString "word") 1064, Value.str (Str.ofString "head") 1065, Value.str (Str.ofString "tail") 1066, Value.str (Str.ofString "sound") 1067, Value.str (Str.ofString "lost") 1068, Value.str (Str.ofString "ahead") 1069, Value.str (Str.ofString "rest") 1070, Value.str (Str.ofString "begin") 1071, Value.str (Str.ofString "kind") 1072]) #[]
noncomputable def o444_0 (p : Params) : Obj := Obj.mk (Value.type "tuple") Option.none (Data.seq #[]) #[]
noncomputable def o445_0 (p : Params) : Obj := Obj.mk Value.none Option.none (Data.func (FuncData.mk (Str.ofString "_law_first") (Str.ofString "_law_first") (fnP (topSt 22)) (FuncBody.stmts (fnB (topSt 22))) (fnS (topSt 22)) 0 [] Value.none Value.none Value.none Value.none Option.none Value.none Value.none 0)) #[]
noncomputable def o446_0 (p : Params) : Obj := Obj.mk (Value.type "code") Option.none (Data.fields #[Value.str (Str.ofString "_law_first") 1061, Value.str (Str.ofString "_law_first") 1062, Value.str (Str.ofString "/claim/cut.py") 1063, Value.int 542 0, Value.int 1 0, Value.int 0 0, Value.int 0 0, Value.int 3 0, Value.ref 441, Value.bool Bool.true, Value.int 181 0, Value.ref 442, Value.none, Value.ref 443, Value.ref 444, Value.ref 445, Value.int 1073 0, Value.int 542 0, Value.str (Str.ofString "/claim/cut.py") 1074]) #[]
noncomputable def o447_0 (p : Params) : Obj := Obj.mk (Value.type "function") Option.none (Data.func (FuncData.mk (Str.ofString "_law_first") (Str.ofString "_law_first") (fnP (topSt 22)) (FuncBody.stmts (fnB (topSt 22))) (fnS (topSt 22)) 3 [] Value.none Value.none Value.none (Value.str (Str.ofString "law_iu0023_01") 899) Option.none (Value.ref 446) Value.none 0)) #[]
noncomputable def o448_0 (p : Params) : Obj := Obj.mk (Value.type "tuple") Option.none (Data.seq #[]) #[]
noncomputable def o449_0 (p : Params) : Obj := Obj.mk Value.none Option.none (Data.fields #[]) #[]
noncomputable def o450_0 (p : Params) : Obj := Obj.mk (Value.type "tuple") Option.none (Data.seq #[Value.str (Str.ofString "word") 1079, Value.str (Str.ofString "begin") 1080, Value.str (Str.ofString "gone") 1081, Value.str (Str.ofString "kind") 1082]) #[]
noncomputable def o451_0 (p : Params) : Obj := Obj.mk (Value.type "tuple") Option.none (Data.seq #[]) #[]
noncomputable def o452_0 (p : Params) : Obj := Obj.mk Value.none Option.none (Data.func (FuncData.mk (Str.ofString "_law_second") (Str.ofString "_law_second") (fnP (topSt 23)) (FuncBody.stmts (fnB (topSt 23))) (fnS (topSt 23)) 0 [] Value.none Value.none Value.none Value.none Option.none Value.none Value.none 0)) #[]
noncomputable def o453_0 (p : Params) : Obj := Obj.mk (Value.type "code") Option.none (Data.fields #[Value.str (Str.ofString "_law_second") 1076, Value.str (Str.ofString "_law_second") 1077, Value.str (Str.ofString "/claim/cut.py") 1078, Value.int 553 0, Value.int 1 0, Value.int 0 0, Value.int 0 0, Value.int 3 0, Value.ref 448, Value.bool Bool.true, Value.int 181 0, Value.ref 449, Value.none, Value.ref 450, Value.ref 451, Value.ref 452, Value.int 1083 0, Value.int 553 0, Value.str (Str.ofString "/claim/cut.py") 1084]) #[]
noncomputable def o454_0 (p : Params) : Obj := Obj.mk (Value.type "function") Option.none (Data.func (FuncData.mk (Str.ofString "_law_second") (Str.ofString "_law_second") (fnP (topSt 23)) (FuncBody.stmts (fnB (topSt 23))) (fnS (topSt 23)) 3 [] Value.none Value.none Value.none (Value.str (Str.ofString "law_iu0023_01") 899) Option.none (Value.ref 453) Value.none 0)) #[]
noncomputable def o455_0 (p : Params) : Obj := Obj.mk (Value.type "tuple") Option.none (Data.seq #[]) #[]
noncomputable def o456_0 (p : Params) : Obj := Obj.mk Value.none Option.none (Data.fields #[]) #[]
noncomputable def o457_0 (p : Params) : Obj := Obj.mk (Value.type "tuple") Option.none (Data.seq #[Value.str (Str.ofString "word") 1089, Value.str (Str.ofString "ends") 1090, Value.str (Str.ofString "lost") 1091, Value.str (Str.ofString "rest") 1092, Value.str (Str.ofString "kind") 1093, Value.str (Str.ofString "opened") 1094, Value.str (Str.ofString "less") 1095]) #[]
noncomputable def o458_0 (p : Params) : Obj := Obj.mk (Value.type "tuple") Option.none (Data.seq #[]) #[]
noncomputable def o459_0 (p : Params) : Obj := Obj.mk Value.none Option.none (Data.func (FuncData.mk (Str.ofString "_law_stem") (Str.ofString "_law_stem") (fnP (topSt 24)) (FuncBody.stmts (fnB (topSt 24))) (fnS (topSt 24)) 0 [] Value.none Value.none Value.none Value.none Option.none Value.none Value.none 0)) #[]
noncomputable def o460_0 (p : Params) : Obj := Obj.mk (Value.type "code") Option.none (Data.fields #[Value.str (Str.ofString "_law_stem") 1086, Value.str (Str.ofString "_law_stem") 1087, Value.str (Str.ofString "/claim/cut.py") 1088, Value.int 560 0, Value.int 1 0, Value.int 0 0, Value.int 0 0, Value.int 3 0, Value.ref 455, Value.bool Bool.true, Value.int 181 0, Value.ref 456, Value.none, Value.ref 457, Value.ref 458, Value.ref 459, Value.int 1096 0, Value.int 560 0, Value.str (Str.ofString "/claim/cut.py") 1097]) #[]
noncomputable def o461_0 (p : Params) : Obj := Obj.mk (Value.type "function") Option.none (Data.func (FuncData.mk (Str.ofString "_law_stem") (Str.ofString "_law_stem") (fnP (topSt 24)) (FuncBody.stmts (fnB (topSt 24))) (fnS (topSt 24)) 3 [] Value.none Value.none Value.none (Value.str (Str.ofString "law_iu0023_01") 899) Option.none (Value.ref 460) Value.none 0)) #[]
noncomputable def o462_0 (p : Params) : Obj := Obj.mk (Value.type "tuple") Option.none (Data.seq #[]) #[]
noncomputable def o463_0 (p : Params) : Obj := Obj.mk Value.none Option.none (Data.fields #[]) #[]
noncomputable def o464_0 (p : Params) : Obj := Obj.mk Value.none Option.none (Data.func (FuncData.mk (Str.ofString "law") (Str.ofString "law") (fnP (topSt 25)) (FuncBody.stmts (fnB (topSt 25))) (fnS (topSt 25)) 0 [] Value.none Value.none Value.none Value.none Option.none Value.none Value.none 0)) #[]
noncomputable def o465_0 (p : Params) : Obj := Obj.mk (Value.type "code") Option.none (Data.fields #[Value.str (Str.ofString "law") 1099, Value.str (Str.ofString "law") 1100, Value.str (Str.ofString "/claim/cut.py") 1101, Value.int 574 0, Value.int 1 0, Value.int 0 0, Value.int 0 0, Value.int 3 0, Value.ref 462, Value.bool Bool.true, Value.int 181 0, Value.ref 463, Value.none, Value.none, Value.none, Value.ref 464, Value.int 1102 0, Value.int 574 0, Value.str (Str.ofString "/claim/cut.py") 1103]) #[]
noncomputable def o466_0 (p : Params) : Obj := Obj.mk (Value.type "function") Option.none (Data.func (FuncData.mk (Str.ofString "law") (Str.ofString "law") (fnP (topSt 25)) (FuncBody.stmts (fnB (topSt 25))) (fnS (topSt 25)) 3 [] Value.none Value.none Value.none (Value.str (Str.ofString "law_iu0023_01") 899) Option.none (Value.ref 465) Value.none 0)) #[]
noncomputable def La (p : Params) : List Obj := [o0_0 p, o1_0 p, o2_0 p, o3_0 p, o4_0 p, o5_0 p, o6_0 p, o7_0 p, o8_0 p, o9_0 p, o10_0 p, o11_0 p, o12_0 p, o13_0 p, o14_0 p]
noncomputable def Lb (p : Params) : List Obj := [o0_0 p, o1_0 p, o2_0 p, o3_1 p, o4_0 p, o5_0 p, o6_0 p, o7_0 p, o8_0 p, o9_0 p, o10_0 p, o11_0 p, o12_1 p, o13_0 p, o14_0 p, o15_0 p, o16_0 p, o17_0 p, o18_0 p, o19_0 p, o20_0 p, o21_0 p]
noncomputable def Lc (p : Params) : List Obj := [o0_0 p, o1_0 p, o2_0 p, o3_2 p, o4_0 p, o5_0 p, o6_0 p, o7_0 p, o8_0 p, o9_0 p, o10_0 p, o11_0 p, o12_2 p, o13_0 p, o14_0 p, o15_0 p, o16_0 p, o17_0 p, o18_0 p, o19_0 p, o20_0 p, o21_0 p, o22_0 p, o23_0 p, o24_0 p, o25_0 p, o26_0 p, o27_0 p, o28_0 p, o29_0 p, o30_0 p, o31_0 p, o32_0 p, o33_0 p, o34_0 p, o35_0 p, o36_0 p, o37_0 p, o38_0 p, o39_0 p, o40_0 p, o41_0 p, o42_0 p, o43_0 p, o44_0 p, o45_0 p, o46_0 p, o47_0 p, o48_0 p, o49_0 p, o50_0 p, o51_0 p, o52_0 p, o53_0 p, o54_0 p, o55_0 p, o56_0 p, o57_0 p, o58_0 p, o59_0 p, o60_0 p, o61_0 p, o62_0 p, o63_0 p, o64_0 p, o65_0 p, o66_0 p, o67_0 p, o68_0 p, o69_0 p, o70_0 p, o71_0 p, o72_0 p, o73_0 p, o74_0 p, o75_0 p, o76_0 p, o77_0 p, o78_0 p, o79_0 p, o80_0 p, o81_0 p, o82_0 p, o83_0 p, o84_0 p, o85_0 p, o86_0 p, o87_0 p, o88_0 p, o89_0 p, o90_0 p, o91_0 p, o92_0 p, o93_0 p, o94_0 p, o95_0 p, o96_0 p, o97_0 p, o98_0 p, o99_0 p, o100_0 p, o101_0 p, o102_0 p, o103_0 p, o104_0 p, o105_0 p, o106_0 p, o107_0 p, o108_0 p, o109_0 p, o110_0 p, o111_0 p, o112_0 p, o113_0 p, o114_0 p, o115_0 p, o116_0 p, o117_0 p, o118_0 p, o119_0 p, o120_0 p, o121_0 p, o122_0 p, o123_0 p, o124_0 p, o125_0 p, o126_0 p, o127_0 p, o128_0 p, o129_0 p, o130_0 p, o131_0 p, o132_0 p, o133_0 p, o134_0 p, o135_0 p, o136_0 p, o137_0 p, o138_0 p, o139_0 p, o140_0 p, o141_0 p, o142_0 p, o143_0 p, o144_0 p, o145_0 p, o146_0 p, o147_0 p, o148_0 p, o149_0 p, o150_0 p, o151_0 p, o152_0 p, o153_0 p, o154_0 p, o155_0 p, o156_0 p, o157_0 p, o158_0 p, o159_0 p, o160_0 p, o161_0 p, o162_0 p, o163_0 p, o164_0 p, o165_0 p, o166_0 p, o167_0 p, o168_0 p, o169_0 p, o170_0 p, o171_0 p, o172_0 p, o173_0 p, o174_0 p, o175_0 p, o176_0 p, o177_0 p, o178_0 p, o179_0 p, o180_0 p, o181_0 p, o182_0 p, o183_0 p, o184_0 p, o185_0 p, o186_0 p, o187_0 p, o188_0 p, o189_0 p, o190_0 p, o191_0 p, o192_0 p, o193_0 p, o194_0 p, o195_0 p, o196_0 p, o197_0 p, o198_0 p, o199_0 p, o200_0 p, o201_0 p, o202_0 p, o203_0 p]
noncomputable def Ld (p : Params) : List Obj := [o0_0 p, o1_0 p, o2_0 p, o3_3 p, o4_0 p, o5_0 p, o6_0 p, o7_0 p, o8_0 p, o9_0 p, o10_0 p, o11_0 p, o12_3 p, o13_0 p, o14_0 p, o15_0 p, o16_0 p, o17_0 p, o18_0 p, o19_0 p, o20_0 p, o21_0 p, o22_0 p, o23_0 p, o24_0 p, o25_0 p, o26_0 p, o27_0 p, o28_0 p, o29_0 p, o30_0 p, o31_0 p, o32_0 p, o33_0 p, o34_0 p, o35_0 p, o36_0 p, o37_0 p, o38_0 p, o39_0 p, o40_0 p, o41_0 p, o42_0 p, o43_0 p, o44_0 p, o45_0 p, o46_0 p, o47_0 p, o48_0 p, o49_0 p, o50_0 p, o51_0 p, o52_0 p, o53_0 p, o54_0 p, o55_0 p, o56_0 p, o57_0 p, o58_0 p, o59_0 p, o60_0 p, o61_0 p, o62_0 p, o63_0 p, o64_0 p, o65_0 p, o66_0 p, o67_0 p, o68_0 p, o69_0 p, o70_0 p, o71_0 p, o72_0 p, o73_0 p, o74_0 p, o75_0 p, o76_0 p, o77_0 p, o78_0 p, o79_0 p, o80_0 p, o81_0 p, o82_0 p, o83_0 p, o84_0 p, o85_0 p, o86_0 p, o87_0 p, o88_0 p, o89_0 p, o90_0 p, o91_0 p, o92_0 p, o93_0 p, o94_0 p, o95_0 p, o96_0 p, o97_0 p, o98_0 p, o99_0 p, o100_0 p, o101_0 p, o102_0 p, o103_0 p, o104_0 p, o105_0 p, o106_0 p, o107_0 p, o108_0 p, o109_0 p, o110_0 p, o111_0 p, o112_0 p, o113_0 p, o114_0 p, o115_0 p, o116_0 p, o117_0 p, o118_0 p, o119_0 p, o120_0 p, o121_0 p, o122_0 p, o123_0 p, o124_0 p, o125_0 p, o126_0 p, o127_0 p, o128_0 p, o129_0 p, o130_0 p, o131_0 p, o132_0 p, o133_0 p, o134_0 p, o135_0 p, o136_0 p, o137_0 p, o138_0 p, o139_0 p, o140_0 p, o141_0 p, o142_0 p, o143_0 p, o144_0 p, o145_0 p, o146_0 p, o147_0 p, o148_0 p, o149_0 p, o150_0 p, o151_0 p, o152_0 p, o153_0 p, o154_0 p, o155_0 p, o156_0 p, o157_0 p, o158_0 p, o159_0 p, o160_0 p, o161_0 p, o162_0 p, o163_0 p, o164_0 p, o165_0 p, o166_0 p, o167_0 p, o168_0 p, o169_0 p, o170_0 p, o171_0 p, o172_0 p, o173_0 p, o174_0 p, o175_0 p, o176_0 p, o177_0 p, o178_0 p, o179_0 p, o180_0 p, o181_0 p, o182_0 p, o183_0 p, o184_0 p, o185_0 p, o186_0 p, o187_0 p, o188_0 p, o189_0 p, o190_0 p, o191_0 p, o192_0 p, o193_0 p, o194_0 p, o195_0 p, o196_0 p, o197_0 p, o198_0 p, o199_0 p, o200_0 p, o201_0 p, o202_0 p, o203_0 p, o204_0 p, o205_0 p, o206_0 p, o207_0 p, o208_0 p, o209_0 p, o210_0 p, o211_0 p, o212_0 p, o213_0 p, o214_0 p, o215_0 p, o216_0 p, o217_0 p, o218_0 p, o219_0 p, o220_0 p, o221_0 p, o222_0 p, o223_0 p, o224_0 p]
noncomputable def Lo (p : Params) : List Obj := [o0_0 p, o1_0 p, o2_0 p, o3_3 p, o4_0 p, o5_0 p, o6_0 p, o7_0 p, o8_0 p, o9_0 p, o10_0 p, o11_0 p, o12_4 p, o13_0 p, o14_0 p, o15_0 p, o16_0 p, o17_0 p, o18_0 p, o19_0 p, o20_0 p, o21_0 p, o22_0 p, o23_0 p, o24_0 p, o25_0 p, o26_0 p, o27_0 p, o28_0 p, o29_0 p, o30_0 p, o31_0 p, o32_0 p, o33_0 p, o34_0 p, o35_0 p, o36_0 p, o37_0 p, o38_0 p, o39_0 p, o40_0 p, o41_0 p, o42_0 p, o43_0 p, o44_0 p, o45_0 p, o46_0 p, o47_0 p, o48_0 p, o49_0 p, o50_0 p, o51_0 p, o52_0 p, o53_0 p, o54_0 p, o55_0 p, o56_0 p, o57_0 p, o58_0 p, o59_0 p, o60_0 p, o61_0 p, o62_0 p, o63_0 p, o64_0 p, o65_0 p, o66_0 p, o67_0 p, o68_0 p, o69_0 p, o70_0 p, o71_0 p, o72_0 p, o73_0 p, o74_0 p, o75_0 p, o76_0 p, o77_0 p, o78_0 p, o79_0 p, o80_0 p, o81_0 p, o82_0 p, o83_0 p, o84_0 p, o85_0 p, o86_0 p, o87_0 p, o88_0 p, o89_0 p, o90_0 p, o91_0 p, o92_0 p, o93_0 p, o94_0 p, o95_0 p, o96_0 p, o97_0 p, o98_0 p, o99_0 p, o100_0 p, o101_0 p, o102_0 p, o103_0 p, o104_0 p, o105_0 p, o106_0 p, o107_0 p, o108_0 p, o109_0 p, o110_0 p, o111_0 p, o112_0 p, o113_0 p, o114_0 p, o115_0 p, o116_0 p, o117_0 p, o118_0 p, o119_0 p, o120_0 p, o121_0 p, o122_0 p, o123_0 p, o124_0 p, o125_0 p, o126_0 p, o127_0 p, o128_0 p, o129_0 p, o130_0 p, o131_0 p, o132_0 p, o133_0 p, o134_0 p, o135_0 p, o136_0 p, o137_0 p, o138_0 p, o139_0 p, o140_0 p, o141_0 p, o142_0 p, o143_0 p, o144_0 p, o145_0 p, o146_0 p, o147_0 p, o148_0 p, o149_0 p, o150_0 p, o151_0 p, o152_0 p, o153_0 p, o154_0 p, o155_0 p, o156_0 p, o157_0 p, o158_0 p, o159_0 p, o160_0 p, o161_0 p, o162_0 p, o163_0 p, o164_0 p, o165_0 p, o166_0 p, o167_0 p, o168_0 p, o169_0 p, o170_0 p, o171_0 p, o172_0 p, o173_0 p, o174_0 p, o175_0 p, o176_0 p, o177_0 p, o178_0 p, o179_0 p, o180_0 p, o181_0 p, o182_0 p, o183_0 p, o184_0 p, o185_0 p, o186_0 p, o187_0 p, o188_0 p, o189_0 p, o190_0 p, o191_0 p, o192_0 p, o193_0 p, o194_0 p, o195_0 p, o196_0 p, o197_0 p, o198_0 p, o199_0 p, o200_0 p, o201_0 p, o202_0 p, o203_0 p, o204_0 p, o205_0 p, o206_0 p, o207_0 p, o208_0 p, o209_0 p, o210_0 p, o211_0 p, o212_0 p, o213_0 p, o214_0 p, o215_0 p, o216_0 p, o217_0 p, o218_0 p, o219_0 p, o220_0 p, o221_0 p, o222_0 p, o223_0 p, o224_0 p, o225_0 p, o226_0 p, o227_0 p, o228_0 p, o229_0 p, o230_0 p, o231_0 p]
noncomputable def Lp (p : Params) : List Obj := [o0_0 p, o1_0 p, o2_0 p, o3_3 p, o4_0 p, o5_0 p, o6_0 p, o7_0 p, o8_0 p, o9_0 p, o10_0 p, o11_0 p, o12_4 p, o13_0 p, o14_0 p, o15_0 p, o16_0 p, o17_0 p, o18_0 p, o19_0 p, o20_0 p, o21_0 p, o22_0 p, o23_0 p, o24_0 p, o25_0 p, o26_0 p, o27_0 p, o28_0 p, o29_0 p, o30_0 p, o31_0 p, o32_0 p, o33_0 p, o34_0 p, o35_0 p, o36_0 p, o37_0 p, o38_0 p, o39_0 p, o40_0 p, o41_0 p, o42_0 p, o43_0 p, o44_0 p, o45_0 p, o46_0 p, o47_0 p, o48_0 p, o49_0 p, o50_0 p, o51_0 p, o52_0 p, o53_0 p, o54_0 p, o55_0 p, o56_0 p, o57_0 p, o58_0 p, o59_0 p, o60_0 p, o61_0 p, o62_0 p, o63_0 p, o64_0 p, o65_0 p, o66_0 p, o67_0 p, o68_0 p, o69_0 p, o70_0 p, o71_0 p, o72_0 p, o73_0 p, o74_0 p, o75_0 p, o76_0 p, o77_0 p, o78_0 p, o79_0 p, o80_0 p, o81_0 p, o82_0 p, o83_0 p, o84_0 p, o85_0 p, o86_0 p, o87_0 p, o88_0 p, o89_0 p, o90_0 p, o91_0 p, o92_0 p, o93_0 p, o94_0 p, o95_0 p, o96_0 p, o97_0 p, o98_0 p, o99_0 p, o100_0 p, o101_0 p, o102_0 p, o103_0 p, o104_0 p, o105_0 p, o106_0 p, o107_0 p, o108_0 p, o109_0 p, o110_0 p, o111_0 p, o112_0 p, o113_0 p, o114_0 p, o115_0 p, o116_0 p, o117_0 p, o118_0 p, o119_0 p, o120_0 p, o121_0 p, o122_0 p, o123_0 p, o124_0 p, o125_0 p, o126_0 p, o127_0 p, o128_0 p, o129_0 p, o130_0 p, o131_0 p, o132_0 p, o133_0 p, o134_0 p, o135_0 p, o136_0 p, o137_0 p, o138_0 p, o139_0 p, o140_0 p, o141_0 p, o142_0 p, o143_0 p, o144_0 p, o145_0 p, o146_0 p, o147_0 p, o148_0 p, o149_0 p, o150_0 p, o151_0 p, o152_0 p, o153_0 p, o154_0 p, o155_0 p, o156_0 p, o157_0 p, o158_0 p, o159_0 p, o160_0 p, o161_0 p, o162_0 p, o163_0 p, o164_0 p, o165_0 p, o166_0 p, o167_0 p, o168_0 p, o169_0 p, o170_0 p, o171_0 p, o172_0 p, o173_0 p, o174_0 p, o175_0 p, o176_0 p, o177_0 p, o178_0 p, o179_0 p, o180_0 p, o181_0 p, o182_0 p, o183_0 p, o184_0 p, o185_0 p, o186_0 p, o187_0 p, o188_0 p, o189_0 p, o190_0 p, o191_0 p, o192_0 p, o193_0 p, o194_0 p, o195_0 p, o196_0 p, o197_0 p, o198_0 p, o199_0 p, o200_0 p, o201_0 p, o202_0 p, o203_0 p, o204_0 p, o205_0 p, o206_0 p, o207_0 p, o208_0 p, o209_0 p, o210_0 p, o211_0 p, o212_0 p, o213_0 p, o214_0 p, o215_0 p, o216_0 p, o217_0 p, o218_0 p, o219_0 p, o220_0 p, o221_0 p, o222_0 p, o223_0 p, o224_0 p, o225_0 p, o226_0 p, o227_1 p, o228_0 p, o229_0 p, o230_0 p, o231_0 p, o232 p]
noncomputable def Lq (p : Params) : List Obj := [o0_0 p, o1_0 p, o2_0 p, o3_3 p, o4_0 p, o5_0 p, o6_0 p, o7_0 p, o8_0 p, o9_0 p, o10_0 p, o11_0 p, o12_4 p, o13_0 p, o14_0 p, o15_0 p, o16_0 p, o17_0 p, o18_0 p, o19_0 p, o20_0 p, o21_0 p, o22_0 p, o23_0 p, o24_0 p, o25_0 p, o26_0 p, o27_0 p, o28_0 p, o29_0 p, o30_0 p, o31_0 p, o32_0 p, o33_0 p, o34_0 p, o35_0 p, o36_0 p, o37_0 p, o38_0 p, o39_0 p, o40_0 p, o41_0 p, o42_0 p, o43_0 p, o44_0 p, o45_0 p, o46_0 p, o47_0 p, o48_0 p, o49_0 p, o50_0 p, o51_0 p, o52_0 p, o53_0 p, o54_0 p, o55_0 p, o56_0 p, o57_0 p, o58_0 p, o59_0 p, o60_0 p, o61_0 p, o62_0 p, o63_0 p, o64_0 p, o65_0 p, o66_0 p, o67_0 p, o68_0 p, o69_0 p, o70_0 p, o71_0 p, o72_0 p, o73_0 p, o74_0 p, o75_0 p, o76_0 p, o77_0 p, o78_0 p, o79_0 p, o80_0 p, o81_0 p, o82_0 p, o83_0 p, o84_0 p, o85_0 p, o86_0 p, o87_0 p, o88_0 p, o89_0 p, o90_0 p, o91_0 p, o92_0 p, o93_0 p, o94_0 p, o95_0 p, o96_0 p, o97_0 p, o98_0 p, o99_0 p, o100_0 p, o101_0 p, o102_0 p, o103_0 p, o104_0 p, o105_0 p, o106_0 p, o107_0 p, o108_0 p, o109_0 p, o110_0 p, o111_0 p, o112_0 p, o113_0 p, o114_0 p, o115_0 p, o116_0 p, o117_0 p, o118_0 p, o119_0 p, o120_0 p, o121_0 p, o122_0 p, o123_0 p, o124_0 p, o125_0 p, o126_0 p, o127_0 p, o128_0 p, o129_0 p, o130_0 p, o131_0 p, o132_0 p, o133_0 p, o134_0 p, o135_0 p, o136_0 p, o137_0 p, o138_0 p, o139_0 p, o140_0 p, o141_0 p, o142_0 p, o143_0 p, o144_0 p, o145_0 p, o146_0 p, o147_0 p, o148_0 p, o149_0 p, o150_0 p, o151_0 p, o152_0 p, o153_0 p, o154_0 p, o155_0 p, o156_0 p, o157_0 p, o158_0 p, o159_0 p, o160_0 p, o161_0 p, o162_0 p, o163_0 p, o164_0 p, o165_0 p, o166_0 p, o167_0 p, o168_0 p, o169_0 p, o170_0 p, o171_0 p, o172_0 p, o173_0 p, o174_0 p, o175_0 p, o176_0 p, o177_0 p, o178_0 p, o179_0 p, o180_0 p, o181_0 p, o182_0 p, o183_0 p, o184_0 p, o185_0 p, o186_0 p, o187_0 p, o188_0 p, o189_0 p, o190_0 p, o191_0 p, o192_0 p, o193_0 p, o194_0 p, o195_0 p, o196_0 p, o197_0 p, o198_0 p, o199_0 p, o200_0 p, o201_0 p, o202_0 p, o203_0 p, o204_0 p, o205_0 p, o206_0 p, o207_0 p, o208_0 p, o209_0 p, o210_0 p, o211_0 p, o212_0 p, o213_0 p, o214_0 p, o215_0 p, o216_0 p, o217_0 p, o218_0 p, o219_0 p, o220_0 p, o221_0 p, o222_0 p, o223_0 p, o224_0 p, o225_0 p, o226_0 p, o227_2 p, o228_0 p, o229_1 p, o230_0 p, o231_0 p, o232 p, o233_0 p, o234_0 p, o235_0 p, o236_0 p, o237_0 p, o238_0 p, o239_0 p, o240_0 p, o241_0 p, o242_0 p, o243_0 p, o244_0 p, o245_0 p, o246_0 p, o247_0 p, o248_0 p, o249_0 p, o250_0 p, o251_0 p, o252_0 p, o253_0 p, o254_0 p, o255_0 p, o256_0 p, o257_0 p, o258_0 p, o259_0 p, o260_0 p, o261_0 p, o262_0 p, o263_0 p, o264_0 p, o265_0 p, o266_0 p, o267_0 p, o268_0 p, o269_0 p, o270_0 p, o271_0 p, o272_0 p, o273_0 p, o274_0 p]
noncomputable def Lr (p : Params) : List Obj := [o0_0 p, o1_0 p, o2_0 p, o3_3 p, o4_0 p, o5_0 p, o6_0 p, o7_0 p, o8_0 p, o9_0 p, o10_0 p, o11_0 p, o12_4 p, o13_0 p, o14_0 p, o15_0 p, o16_0 p, o17_0 p, o18_0 p, o19_0 p, o20_0 p, o21_0 p, o22_0 p, o23_0 p, o24_0 p, o25_0 p, o26_0 p, o27_0 p, o28_0 p, o29_0 p, o30_0 p, o31_0 p, o32_0 p, o33_0 p, o34_0 p, o35_0 p, o36_0 p, o37_0 p, o38_0 p, o39_0 p, o40_0 p, o41_0 p, o42_0 p, o43_0 p, o44_0 p, o45_0 p, o46_0 p, o47_0 p, o48_0 p, o49_0 p, o50_0 p, o51_0 p, o52_0 p, o53_0 p, o54_0 p, o55_0 p, o56_0 p, o57_0 p, o58_0 p, o59_0 p, o60_0 p, o61_0 p, o62_0 p, o63_0 p, o64_0 p, o65_0 p, o66_0 p, o67_0 p, o68_0 p, o69_0 p, o70_0 p, o71_0 p, o72_0 p, o73_0 p, o74_0 p, o75_0 p, o76_0 p, o77_0 p, o78_0 p, o79_0 p, o80_0 p, o81_0 p, o82_0 p, o83_0 p, o84_0 p, o85_0 p, o86_0 p, o87_0 p, o88_0 p, o89_0 p, o90_0 p, o91_0 p, o92_0 p, o93_0 p, o94_0 p, o95_0 p, o96_0 p, o97_0 p, o98_0 p, o99_0 p, o100_0 p, o101_0 p, o102_0 p, o103_0 p, o104_0 p, o105_0 p, o106_0 p, o107_0 p, o108_0 p, o109_0 p, o110_0 p, o111_0 p, o112_0 p, o113_0 p, o114_0 p, o115_0 p, o116_0 p, o117_0 p, o118_0 p, o119_0 p, o120_0 p, o121_0 p, o122_0 p, o123_0 p, o124_0 p, o125_0 p, o126_0 p, o127_0 p, o128_0 p, o129_0 p, o130_0 p, o131_0 p, o132_0 p, o133_0 p, o134_0 p, o135_0 p, o136_0 p, o137_0 p, o138_0 p, o139_0 p, o140_0 p, o141_0 p, o142_0 p, o143_0 p, o144_0 p, o145_0 p, o146_0 p, o147_0 p, o148_0 p, o149_0 p, o150_0 p, o151_0 p, o152_0 p, o153_0 p, o154_0 p, o155_0 p, o156_0 p, o157_0 p, o158_0 p, o159_0 p, o160_0 p, o161_0 p, o162_0 p, o163_0 p, o164_0 p, o165_0 p, o166_0 p, o167_0 p, o168_0 p, o169_0 p, o170_0 p, o171_0 p, o172_0 p, o173_0 p, o174_0 p, o175_0 p, o176_0 p, o177_0 p, o178_0 p, o179_0 p, o180_0 p, o181_0 p, o182_0 p, o183_0 p, o184_0 p, o185_0 p, o186_0 p, o187_0 p, o188_0 p, o189_0 p, o190_0 p, o191_0 p, o192_0 p, o193_0 p, o194_0 p, o195_0 p, o196_0 p, o197_0 p, o198_0 p, o199_0 p, o200_0 p, o201_0 p, o202_0 p, o203_0 p, o204_0 p, o205_0 p, o206_0 p, o207_0 p, o208_0 p, o209_0 p, o210_0 p, o211_0 p, o212_0 p, o213_0 p, o214_0 p, o215_0 p, o216_0 p, o217_0 p, o218_0 p, o219_0 p, o220_0 p, o221_0 p, o222_0 p, o223_0 p, o224_0 p, o225_0 p, o226_0 p, o227_3 p, o228_0 p, o229_1 p, o230_0 p, o231_0 p, o232 p, o233_0 p, o234_0 p, o235_0 p, o236_0 p, o237_0 p, o238_0 p, o239_0 p, o240_0 p, o241_0 p, o242_0 p, o243_0 p, o244_0 p, o245_0 p, o246_0 p, o247_0 p, o248_0 p, o249_0 p, o250_0 p, o251_0 p, o252_0 p, o253_0 p, o254_0 p, o255_0 p, o256_0 p, o257_0 p, o258_0 p, o259_0 p, o260_0 p, o261_0 p, o262_0 p, o263_0 p, o264_0 p, o265_0 p, o266_0 p, o267_0 p, o268_0 p, o269_0 p, o270_0 p, o271_0 p, o272_0 p, o273_0 p, o274_0 p, o275_0 p, o276_0 p, o277_0 p, o278_0 p, o279_0 p, o280_0 p, o281_0 p, o282_0 p, o283_0 p, o284_0 p]
noncomputable def Ls (p : Params) : List Obj := [o0_0 p, o1_0 p, o2_0 p, o3_3 p, o4_0 p, o5_0 p, o6_0 p, o7_0 p, o8_0 p, o9_0 p, o10_0 p, o11_0 p, o12_4 p, o13_0 p, o14_0 p, o15_0 p, o16_0 p, o17_0 p, o18_0 p, o19_0 p, o20_0 p, o21_0 p, o22_0 p, o23_0 p, o24_0 p, o25_0 p, o26_0 p, o27_0 p, o28_0 p, o29_0 p, o30_0 p, o31_0 p, o32_0 p, o33_0 p, o34_0 p, o35_0 p, o36_0 p, o37_0 p, o38_0 p, o39_0 p, o40_0 p, o41_0 p, o42_0 p, o43_0 p, o44_0 p, o45_0 p, o46_0 p, o47_0 p, o48_0 p, o49_0 p, o50_0 p, o51_0 p, o52_0 p, o53_0 p, o54_0 p, o55_0 p, o56_0 p, o57_0 p, o58_0 p, o59_0 p, o60_0 p, o61_0 p, o62_0 p, o63_0 p, o64_0 p, o65_0 p, o66_0 p, o67_0 p, o68_0 p, o69_0 p, o70_0 p, o71_0 p, o72_0 p, o73_0 p, o74_0 p, o75_0 p, o76_0 p, o77_0 p, o78_0 p, o79_0 p, o80_0 p, o81_0 p, o82_0 p, o83_0 p, o84_0 p, o85_0 p, o86_0 p, o87_0 p, o88_0 p, o89_0 p, o90_0 p, o91_0 p, o92_0 p, o93_0 p, o94_0 p, o95_0 p, o96_0 p, o97_0 p, o98_0 p, o99_0 p, o100_0 p, o101_0 p, o102_0 p, o103_0 p, o104_0 p, o105_0 p, o106_0 p, o107_0 p, o108_0 p, o109_0 p, o110_0 p, o111_0 p, o112_0 p, o113_0 p, o114_0 p, o115_0 p, o116_0 p, o117_0 p, o118_0 p, o119_0 p, o120_0 p, o121_0 p, o122_0 p, o123_0 p, o124_0 p, o125_0 p, o126_0 p, o127_0 p, o128_0 p, o129_0 p, o130_0 p, o131_0 p, o132_0 p, o133_0 p, o134_0 p, o135_0 p, o136_0 p, o137_0 p, o138_0 p, o139_0 p, o140_0 p, o141_0 p, o142_0 p, o143_0 p, o144_0 p, o145_0 p, o146_0 p, o147_0 p, o148_0 p, o149_0 p, o150_0 p, o151_0 p, o152_0 p, o153_0 p, o154_0 p, o155_0 p, o156_0 p, o157_0 p, o158_0 p, o159_0 p, o160_0 p, o161_0 p, o162_0 p, o163_0 p, o164_0 p, o165_0 p, o166_0 p, o167_0 p, o168_0 p, o169_0 p, o170_0 p, o171_0 p, o172_0 p, o173_0 p, o174_0 p, o175_0 p, o176_0 p, o177_0 p, o178_0 p, o179_0 p, o180_0 p, o181_0 p, o182_0 p, o183_0 p, o184_0 p, o185_0 p, o186_0 p, o187_0 p, o188_0 p, o189_0 p, o190_0 p, o191_0 p, o192_0 p, o193_0 p, o194_0 p, o195_0 p, o196_0 p, o197_0 p, o198_0 p, o199_0 p, o200_0 p, o201_0 p, o202_0 p, o203_0 p, o204_0 p, o205_0 p, o206_0 p, o207_0 p, o208_0 p, o209_0 p, o210_0 p, o211_0 p, o212_0 p, o213_0 p, o214_0 p, o215_0 p, o216_0 p, o217_0 p, o218_0 p, o219_0 p, o220_0 p, o221_0 p, o222_0 p, o223_0 p, o224_0 p, o225_0 p, o226_0 p, o227_4 p, o228_0 p, o229_1 p, o230_0 p, o231_0 p, o232 p, o233_0 p, o234_0 p, o235_0 p, o236_0 p, o237_0 p, o238_0 p, o239_0 p, o240_0 p, o241_0 p, o242_0 p, o243_0 p, o244_0 p, o245_0 p, o246_0 p, o247_0 p, o248_0 p, o249_0 p, o250_0 p, o251_0 p, o252_0 p, o253_0 p, o254_0 p, o255_0 p, o256_0 p, o257_0 p, o258_0 p, o259_0 p, o260_0 p, o261_0 p, o262_0 p, o263_0 p, o264_0 p, o265_0 p, o266_0 p, o267_0 p, o268_0 p, o269_0 p, o270_0 p, o271_0 p, o272_0 p, o273_0 p, o274_0 p, o275_0 p, o276_0 p, o277_0 p, o278_0 p, o279_0 p, o280_0 p, o281_0 p, o282_0 p, o283_0 p, o284_0 p, o285_0 p, o286_0 p, o287_0 p, o288_0 p, o289_0 p, o290_0 p, o291_0 p, o292_0 p, o293_0 p, o294_0 p]
noncomputable def Lt (p : Params) : List Obj := [o0_0 p, o1_0 p, o2_0 p, o3_3 p, o4_0 p, o5_0 p, o6_0 p, o7_0 p, o8_0 p, o9_0 p, o10_0 p, o11_0 p, o12_4 p, o13_0 p, o14_0 p, o15_0 p, o16_0 p, o17_0 p, o18_0 p, o19_0 p, o20_0 p, o21_0 p, o22_0 p, o23_0 p, o24_0 p, o25_0 p, o26_0 p, o27_0 p, o28_0 p, o29_0 p, o30_0 p, o31_0 p, o32_0 p, o33_0 p, o34_0 p, o35_0 p, o36_0 p, o37_0 p, o38_0 p, o39_0 p, o40_0 p, o41_0 p, o42_0 p, o43_0 p, o44_0 p, o45_0 p, o46_0 p, o47_0 p, o48_0 p, o49_0 p, o50_0 p, o51_0 p, o52_0 p, o53_0 p, o54_0 p, o55_0 p, o56_0 p, o57_0 p, o58_0 p, o59_0 p, o60_0 p, o61_0 p, o62_0 p, o63_0 p, o64_0 p, o65_0 p, o66_0 p, o67_0 p, o68_0 p, o69_0 p, o70_0 p, o71_0 p, o72_0 p, o73_0 p, o74_0 p, o75_0 p, o76_0 p, o77_0 p, o78_0 p, o79_0 p, o80_0 p, o81_0 p, o82_0 p, o83_0 p, o84_0 p, o85_0 p, o86_0 p, o87_0 p, o88_0 p, o89_0 p, o90_0 p, o91_0 p, o92_0 p, o93_0 p, o94_0 p, o95_0 p, o96_0 p, o97_0 p, o98_0 p, o99_0 p, o100_0 p, o101_0 p, o102_0 p, o103_0 p, o104_0 p, o105_0 p, o106_0 p, o107_0 p, o108_0 p, o109_0 p, o110_0 p, o111_0 p, o112_0 p, o113_0 p, o114_0 p, o115_0 p, o116_0 p, o117_0 p, o118_0 p, o119_0 p, o120_0 p, o121_0 p, o122_0 p, o123_0 p, o124_0 p, o125_0 p, o126_0 p, o127_0 p, o128_0 p, o129_0 p, o130_0 p, o131_0 p, o132_0 p, o133_0 p, o134_0 p, o135_0 p, o136_0 p, o137_0 p, o138_0 p, o139_0 p, o140_0 p, o141_0 p, o142_0 p, o143_0 p, o144_0 p, o145_0 p, o146_0 p, o147_0 p, o148_0 p, o149_0 p, o150_0 p, o151_0 p, o152_0 p, o153_0 p, o154_0 p, o155_0 p, o156_0 p, o157_0 p, o158_0 p, o159_0 p, o160_0 p, o161_0 p, o162_0 p, o163_0 p, o164_0 p, o165_0 p, o166_0 p, o167_0 p, o168_0 p, o169_0 p, o170_0 p, o171_0 p, o172_0 p, o173_0 p, o174_0 p, o175_0 p, o176_0 p, o177_0 p, o178_0 p, o179_0 p, o180_0 p, o181_0 p, o182_0 p, o183_0 p, o184_0 p, o185_0 p, o186_0 p, o187_0 p, o188_0 p, o189_0 p, o190_0 p, o191_0 p, o192_0 p, o193_0 p, o194_0 p, o195_0 p, o196_0 p, o197_0 p, o198_0 p, o199_0 p, o200_0 p, o201_0 p, o202_0 p, o203_0 p, o204_0 p, o205_0 p, o206_0 p, o207_0 p, o208_0 p, o209_0 p, o210_0 p, o211_0 p, o212_0 p, o213_0 p, o214_0 p, o215_0 p, o216_0 p, o217_0 p, o218_0 p, o219_0 p, o220_0 p, o221_0 p, o222_0 p, o223_0 p, o224_0 p, o225_0 p, o226_0 p, o227_5 p, o228_0 p, o229_1 p, o230_0 p, o231_0 p, o232 p, o233_0 p, o234_0 p, o235_0 p, o236_0 p, o237_0 p, o238_0 p, o239_0 p, o240_0 p, o241_0 p, o242_0 p, o243_0 p, o244_0 p, o245_0 p, o246_0 p, o247_0 p, o248_0 p, o249_0 p, o250_0 p, o251_0 p, o252_0 p, o253_0 p, o254_0 p, o255_0 p, o256_0 p, o257_0 p, o258_0 p, o259_0 p, o260_0 p, o261_0 p, o262_0 p, o263_0 p, o264_0 p, o265_0 p, o266_0 p, o267_0 p, o268_0 p, o269_0 p, o270_0 p, o271_0 p, o272_0 p, o273_0 p, o274_0 p, o275_0 p, o276_0 p, o277_0 p, o278_0 p, o279_0 p, o280_0 p, o281_0 p, o282_0 p, o283_0 p, o284_0 p, o285_0 p, o286_0 p, o287_0 p, o288_0 p, o289_0 p, o290_0 p, o291_0 p, o292_0 p, o293_0 p, o294_0 p, o295_0 p, o296_0 p, o297_0 p, o298_0 p, o299_0 p, o300_0 p, o301_0 p]
noncomputable def Lu (p : Params) : List Obj := [o0_0 p, o1_0 p, o2_0 p, o3_3 p, o4_0 p, o5_0 p, o6_0 p, o7_0 p, o8_0 p, o9_0 p, o10_0 p, o11_0 p, o12_4 p, o13_0 p, o14_0 p, o15_0 p, o16_0 p, o17_0 p, o18_0 p, o19_0 p, o20_0 p, o21_0 p, o22_0 p, o23_0 p, o24_0 p, o25_0 p, o26_0 p, o27_0 p, o28_0 p, o29_0 p, o30_0 p, o31_0 p, o32_0 p, o33_0 p, o34_0 p, o35_0 p, o36_0 p, o37_0 p, o38_0 p, o39_0 p, o40_0 p, o41_0 p, o42_0 p, o43_0 p, o44_0 p, o45_0 p, o46_0 p, o47_0 p, o48_0 p, o49_0 p, o50_0 p, o51_0 p, o52_0 p, o53_0 p, o54_0 p, o55_0 p, o56_0 p, o57_0 p, o58_0 p, o59_0 p, o60_0 p, o61_0 p, o62_0 p, o63_0 p, o64_0 p, o65_0 p, o66_0 p, o67_0 p, o68_0 p, o69_0 p, o70_0 p, o71_0 p, o72_0 p, o73_0 p, o74_0 p, o75_0 p, o76_0 p, o77_0 p, o78_0 p, o79_0 p, o80_0 p, o81_0 p, o82_0 p, o83_0 p, o84_0 p, o85_0 p, o86_0 p, o87_0 p, o88_0 p, o89_0 p, o90_0 p, o91_0 p, o92_0 p, o93_0 p, o94_0 p, o95_0 p, o96_0 p, o97_0 p, o98_0 p, o99_0 p, o100_0 p, o101_0 p, o102_0 p, o103_0 p, o104_0 p, o105_0 p, o106_0 p, o107_0 p, o108_0 p, o109_0 p, o110_0 p, o111_0 p, o112_0 p, o113_0 p, o114_0 p, o115_0 p, o116_0 p, o117_0 p, o118_0 p, o119_0 p, o120_0 p, o121_0 p, o122_0 p, o123_0 p, o124_0 p, o125_0 p, o126_0 p, o127_0 p, o128_0 p, o129_0 p, o130_0 p, o131_0 p, o132_0 p, o133_0 p, o134_0 p, o135_0 p, o136_0 p, o137_0 p, o138_0 p, o139_0 p, o140_0 p, o141_0 p, o142_0 p, o143_0 p, o144_0 p, o145_0 p, o146_0 p, o147_0 p, o148_0 p, o149_0 p, o150_0 p, o151_0 p, o152_0 p, o153_0 p, o154_0 p, o155_0 p, o156_0 p, o157_0 p, o158_0 p, o159_0 p, o160_0 p, o161_0 p, o162_0 p, o163_0 p, o164_0 p, o165_0 p, o166_0 p, o167_0 p, o168_0 p, o169_0 p, o170_0 p, o171_0 p, o172_0 p, o173_0 p, o174_0 p, o175_0 p, o176_0 p, o177_0 p, o178_0 p, o179_0 p, o180_0 p, o181_0 p, o182_0 p, o183_0 p, o184_0 p, o185_0 p, o186_0 p, o187_0 p, o188_0 p, o189_0 p, o190_0 p, o191_0 p, o192_0 p, o193_0 p, o194_0 p, o195_0 p, o196_0 p, o197_0 p, o198_0 p, o199_0 p, o200_0 p, o201_0 p, o202_0 p, o203_0 p, o204_0 p, o205_0 p, o206_0 p, o207_0 p, o208_0 p, o209_0 p, o210_0 p, o211_0 p, o212_0 p, o213_0 p, o214_0 p, o215_0 p, o216_0 p, o217_0 p, o218_0 p, o219_0 p, o220_0 p, o221_0 p, o222_0 p, o223_0 p, o224_0 p, o225_0 p, o226_0 p, o227_6 p, o228_0 p, o229_1 p, o230_0 p, o231_0 p, o232 p, o233_0 p, o234_0 p, o235_0 p, o236_0 p, o237_0 p, o238_0 p, o239_0 p, o240_0 p, o241_0 p, o242_0 p, o243_0 p, o244_0 p, o245_0 p, o246_0 p, o247_0 p, o248_0 p, o249_0 p, o250_0 p, o251_0 p, o252_0 p, o253_0 p, o254_0 p, o255_0 p, o256_0 p, o257_0 p, o258_0 p, o259_0 p, o260_0 p, o261_0 p, o262_0 p, o263_0 p, o264_0 p, o265_0 p, o266_0 p, o267_0 p, o268_0 p, o269_0 p, o270_0 p, o271_0 p, o272_0 p, o273_0 p, o274_0 p, o275_0 p, o276_0 p, o277_0 p, o278_0 p, o279_0 p, o280_0 p, o281_0 p, o282_0 p, o283_0 p, o284_0 p, o285_0 p, o286_0 p, o287_0 p, o288_0 p, o289_0 p, o290_0 p, o291_0 p, o292_0 p, o293_0 p, o294_0 p, o295_0 p, o296_0 p, o297_0 p, o298_0 p, o299_0 p, o300_0 p, o301_0 p, o302_0 p, o303_0 p, o304_0 p, o305_0 p, o306_0 p, o307_0 p, o308_0 p, o309_0 p, o310_0 p, o311_0 p, o312_0 p, o313_0 p, o314_0 p, o315_0 p, o316_0 p, o317_0 p, o318_0 p, o319_0 p, o320_0 p, o321_0 p, o322_0 p, o323_0 p, o324_0 p, o325_0 p, o326_0 p, o327_0 p, o328_0 p, o329_0 p, o330_0 p, o331_0 p, o332_0 p]
noncomputable def Lv (p : Params) : List Obj := [o0_0 p, o1_0 p, o2_0 p, o3_3 p, o4_0 p, o5_0 p, o6_0 p, o7_0 p, o8_0 p, o9_0 p, o10_0 p, o11_0 p, o12_4 p, o13_0 p, o14_0 p, o15_0 p, o16_0 p, o17_0 p, o18_0 p, o19_0 p, o20_0 p, o21_0 p, o22_0 p, o23_0 p, o24_0 p, o25_0 p, o26_0 p, o27_0 p, o28_0 p, o29_0 p, o30_0 p, o31_0 p, o32_0 p, o33_0 p, o34_0 p, o35_0 p, o36_0 p, o37_0 p, o38_0 p, o39_0 p, o40_0 p, o41_0 p, o42_0 p, o43_0 p, o44_0 p, o45_0 p, o46_0 p, o47_0 p, o48_0 p, o49_0 p, o50_0 p, o51_0 p, o52_0 p, o53_0 p, o54_0 p, o55_0 p, o56_0 p, o57_0 p, o58_0 p, o59_0 p, o60_0 p, o61_0 p, o62_0 p, o63_0 p, o64_0 p, o65_0 p, o66_0 p, o67_0 p, o68_0 p, o69_0 p, o70_0 p, o71_0 p, o72_0 p, o73_0 p, o74_0 p, o75_0 p, o76_0 p, o77_0 p, o78_0 p, o79_0 p, o80_0 p, o81_0 p, o82_0 p, o83_0 p, o84_0 p, o85_0 p, o86_0 p, o87_0 p, o88_0 p, o89_0 p, o90_0 p, o91_0 p, o92_0 p, o93_0 p, o94_0 p, o95_0 p, o96_0 p, o97_0 p, o98_0 p, o99_0 p, o100_0 p, o101_0 p, o102_0 p, o103_0 p, o104_0 p, o105_0 p, o106_0 p, o107_0 p, o108_0 p, o109_0 p, o110_0 p, o111_0 p, o112_0 p, o113_0 p, o114_0 p, o115_0 p, o116_0 p, o117_0 p, o118_0 p, o119_0 p, o120_0 p, o121_0 p, o122_0 p, o123_0 p, o124_0 p, o125_0 p, o126_0 p, o127_0 p, o128_0 p, o129_0 p, o130_0 p, o131_0 p, o132_0 p, o133_0 p, o134_0 p, o135_0 p, o136_0 p, o137_0 p, o138_0 p, o139_0 p, o140_0 p, o141_0 p, o142_0 p, o143_0 p, o144_0 p, o145_0 p, o146_0 p, o147_0 p, o148_0 p, o149_0 p, o150_0 p, o151_0 p, o152_0 p, o153_0 p, o154_0 p, o155_0 p, o156_0 p, o157_0 p, o158_0 p, o159_0 p, o160_0 p, o161_0 p, o162_0 p, o163_0 p, o164_0 p, o165_0 p, o166_0 p, o167_0 p, o168_0 p, o169_0 p, o170_0 p, o171_0 p, o172_0 p, o173_0 p, o174_0 p, o175_0 p, o176_0 p, o177_0 p, o178_0 p, o179_0 p, o180_0 p, o181_0 p, o182_0 p, o183_0 p, o184_0 p, o185_0 p, o186_0 p, o187_0 p, o188_0 p, o189_0 p, o190_0 p, o191_0 p, o192_0 p, o193_0 p, o194_0 p, o195_0 p, o196_0 p, o197_0 p, o198_0 p, o199_0 p, o200_0 p, o201_0 p, o202_0 p, o203_0 p, o204_0 p, o205_0 p, o206_0 p, o207_0 p, o208_0 p, o209_0 p, o210_0 p, o211_0 p, o212_0 p, o213_0 p, o214_0 p, o215_0 p, o216_0 p, o217_0 p, o218_0 p, o219_0 p, o220_0 p, o221_0 p, o222_0 p, o223_0 p, o224_0 p, o225_0 p, o226_0 p, o227_7 p, o228_0 p, o229_1 p, o230_0 p, o231_0 p, o232 p, o233_0 p, o234_0 p, o235_0 p, o236_0 p, o237_0 p, o238_0 p, o239_0 p, o240_0 p, o241_0 p, o242_0 p, o243_0 p, o244_0 p, o245_0 p, o246_0 p, o247_0 p, o248_0 p, o249_0 p, o250_0 p, o251_0 p, o252_0 p, o253_0 p, o254_0 p, o255_0 p, o256_0 p, o257_0 p, o258_0 p, o259_0 p, o260_0 p, o261_0 p, o262_0 p, o263_0 p, o264_0 p, o265_0 p, o266_0 p, o267_0 p, o268_0 p, o269_0 p, o270_0 p, o271_0 p, o272_0 p, o273_0 p, o274_0 p, o275_0 p, o276_0 p, o277_0 p, o278_0 p, o279_0 p, o280_0 p, o281_0 p, o282_0 p, o283_0 p, o284_0 p, o285_0 p, o286_0 p, o287_0 p, o288_0 p, o289_0 p, o290_0 p, o291_0 p, o292_0 p, o293_0 p, o294_0 p, o295_0 p, o296_0 p, o297_0 p, o298_0 p, o299_0 p, o300_0 p, o301_0 p, o302_0 p, o303_0 p, o304_0 p, o305_0 p, o306_0 p, o307_0 p, o308_0 p, o309_0 p, o310_0 p, o311_0 p, o312_0 p, o313_0 p, o314_0 p, o315_0 p, o316_0 p, o317_0 p, o318_0 p, o319_0 p, o320_0 p, o321_0 p, o322_0 p, o323_0 p, o324_0 p, o325_0 p, o326_0 p, o327_0 p, o328_0 p, o329_0 p, o330_0 p, o331_0 p, o332_0 p, o333_0 p, o334_0 p, o335_0 p, o336_0 p, o337_0 p, o338_0 p, o339_0 p]
noncomputable def Le (p : Params) : List Obj := [o0_0 p, o1_0 p, o2_0 p, o3_4 p, o4_0 p, o5_0 p, o6_0 p, o7_0 p, o8_0 p, o9_0 p, o10_0 p, o11_0 p, o12_4 p, o13_0 p, o14_0 p, o15_0 p, o16_0 p, o17_0 p, o18_0 p, o19_0 p, o20_0 p, o21_0 p, o22_0 p, o23_0 p, o24_0 p, o25_0 p, o26_0 p, o27_0 p, o28_0 p, o29_0 p, o30_0 p, o31_0 p, o32_0 p, o33_0 p, o34_0 p, o35_0 p, o36_0 p, o37_0 p, o38_0 p, o39_0 p, o40_0 p, o41_0 p, o42_0 p, o43_0 p, o44_0 p, o45_0 p, o46_0 p, o47_0 p, o48_0 p, o49_0 p, o50_0 p, o51_0 p, o52_0 p, o53_0 p, o54_0 p, o55_0 p, o56_0 p, o57_0 p, o58_0 p, o59_0 p, o60_0 p, o61_0 p, o62_0 p, o63_0 p, o64_0 p, o65_0 p, o66_0 p, o67_0 p, o68_0 p, o69_0 p, o70_0 p, o71_0 p, o72_0 p, o73_0 p, o74_0 p, o75_0 p, o76_0 p, o77_0 p, o78_0 p, o79_0 p, o80_0 p, o81_0 p, o82_0 p, o83_0 p, o84_0 p, o85_0 p, o86_0 p, o87_0 p, o88_0 p, o89_0 p, o90_0 p, o91_0 p, o92_0 p, o93_0 p, o94_0 p, o95_0 p, o96_0 p, o97_0 p, o98_0 p, o99_0 p, o100_0 p, o101_0 p, o102_0 p, o103_0 p, o104_0 p, o105_0 p, o106_0 p, o107_0 p, o108_0 p, o109_0 p, o110_0 p, o111_0 p, o112_0 p, o113_0 p, o114_0 p, o115_0 p, o116_0 p, o117_0 p, o118_0 p, o119_0 p, o120_0 p, o121_0 p, o122_0 p, o123_0 p, o124_0 p, o125_0 p, o126_0 p, o127_0 p, o128_0 p, o129_0 p, o130_0 p, o131_0 p, o132_0 p, o133_0 p, o134_0 p, o135_0 p, o136_0 p, o137_0 p, o138_0 p, o139_0 p, o140_0 p, o141_0 p, o142_0 p, o143_0 p, o144_0 p, o145_0 p, o146_0 p, o147_0 p, o148_0 p, o149_0 p, o150_0 p, o151_0 p, o152_0 p, o153_0 p, o154_0 p, o155_0 p, o156_0 p, o157_0 p, o158_0 p, o159_0 p, o160_0 p, o161_0 p, o162_0 p, o163_0 p, o164_0 p, o165_0 p, o166_0 p, o167_0 p, o168_0 p, o169_0 p, o170_0 p, o171_0 p, o172_0 p, o173_0 p, o174_0 p, o175_0 p, o176_0 p, o177_0 p, o178_0 p, o179_0 p, o180_0 p, o181_0 p, o182_0 p, o183_0 p, o184_0 p, o185_0 p, o186_0 p, o187_0 p, o188_0 p, o189_0 p, o190_0 p, o191_0 p, o192_0 p, o193_0 p, o194_0 p, o195_0 p, o196_0 p, o197_0 p, o198_0 p, o199_1 p, o200_0 p, o201_0 p, o202_0 p, o203_0 p, o204_0 p, o205_0 p, o206_0 p, o207_0 p, o208_0 p, o209_0 p, o210_0 p, o211_0 p, o212_0 p, o213_0 p, o214_0 p, o215_0 p, o216_0 p, o217_0 p, o218_0 p, o219_0 p, o220_0 p, o221_0 p, o222_0 p, o223_0 p, o224_0 p, o225_0 p, o226_0 p, o227_8 p, o228_0 p, o229_1 p, o230_0 p, o231_0 p, o232 p, o233_0 p, o234_0 p, o235_0 p, o236_0 p, o237_0 p, o238_0 p, o239_0 p, o240_0 p, o241_0 p, o242_0 p, o243_0 p, o244_0 p, o245_0 p, o246_0 p, o247_0 p, o248_0 p, o249_0 p, o250_0 p, o251_0 p, o252_0 p, o253_0 p, o254_0 p, o255_0 p, o256_0 p, o257_0 p, o258_0 p, o259_0 p, o260_0 p, o261_0 p, o262_0 p, o263_0 p, o264_0 p, o265_0 p, o266_0 p, o267_0 p, o268_0 p, o269_0 p, o270_0 p, o271_0 p, o272_0 p, o273_0 p, o274_0 p, o275_0 p, o276_0 p, o277_0 p, o278_0 p, o279_0 p, o280_0 p, o281_0 p, o282_0 p, o283_0 p, o284_0 p, o285_0 p, o286_0 p, o287_0 p, o288_0 p, o289_0 p, o290_0 p, o291_0 p, o292_0 p, o293_0 p, o294_0 p, o295_0 p, o296_0 p, o297_0 p, o298_0 p, o299_0 p, o300_0 p, o301_0 p, o302_0 p, o303_0 p, o304_0 p, o305_0 p, o306_0 p, o307_0 p, o308_0 p, o309_0 p, o310_0 p, o311_0 p, o312_0 p, o313_0 p, o314_0 p, o315_0 p, o316_0 p, o317_0 p, o318_0 p, o319_0 p, o320_0 p, o321_0 p, o322_0 p, o323_0 p, o324_0 p, o325_0 p, o326_0 p, o327_0 p, o328_0 p, o329_0 p, o330_0 p, o331_0 p, o332_0 p, o333_0 p, o334_0 p, o335_0 p, o336_0 p, o337_0 p, o338_0 p, o339_0 p, o340_0 p, o341_0 p, o342_0 p, o343_0 p, o344_0 p]
noncomputable def Lf (p : Params) : List Obj := [o0_0 p, o1_0 p, o2_1 p, o3_5 p, o4_0 p, o5_0 p, o6_0 p, o7_0 p, o8_0 p, o9_0 p, o10_0 p, o11_0 p, o12_5 p, o13_0 p, o14_0 p, o15_0 p, o16_0 p, o17_0 p, o18_0 p, o19_0 p, o20_0 p, o21_0 p, o22_0 p, o23_0 p, o24_0 p, o25_0 p, o26_0 p, o27_0 p, o28_0 p, o29_0 p, o30_0 p, o31_0 p, o32_0 p, o33_0 p, o34_0 p, o35_0 p, o36_0 p, o37_0 p, o38_0 p, o39_0 p, o40_0 p, o41_0 p, o42_0 p, o43_0 p, o44_0 p, o45_0 p, o46_0 p, o47_0 p, o48_0 p, o49_0 p, o50_0 p, o51_0 p, o52_0 p, o53_0 p, o54_0 p, o55_0 p, o56_0 p, o57_0 p, o58_0 p, o59_0 p, o60_0 p, o61_0 p, o62_0 p, o63_0 p, o64_0 p, o65_0 p, o66_0 p, o67_0 p, o68_0 p, o69_0 p, o70_0 p, o71_0 p, o72_0 p, o73_0 p, o74_0 p, o75_0 p, o76_0 p, o77_0 p, o78_0 p, o79_0 p, o80_0 p, o81_0 p, o82_0 p, o83_0 p, o84_0 p, o85_0 p, o86_0 p, o87_0 p, o88_0 p, o89_0 p, o90_0 p, o91_0 p, o92_0 p, o93_0 p, o94_0 p, o95_0 p, o96_0 p, o97_0 p, o98_0 p, o99_0 p, o100_0 p, o101_0 p, o102_0 p, o103_0 p, o104_0 p, o105_0 p, o106_0 p, o107_0 p, o108_0 p, o109_0 p, o110_0 p, o111_0 p, o112_0 p, o113_0 p, o114_0 p, o115_0 p, o116_0 p, o117_0 p, o118_0 p, o119_0 p, o120_0 p, o121_0 p, o122_0 p, o123_0 p, o124_0 p, o125_0 p, o126_0 p, o127_0 p, o128_0 p, o129_0 p, o130_0 p, o131_0 p, o132_0 p, o133_0 p, o134_0 p, o135_0 p, o136_0 p, o137_0 p, o138_0 p, o139_0 p, o140_0 p, o141_0 p, o142_0 p, o143_0 p, o144_0 p, o145_0 p, o146_0 p, o147_0 p, o148_0 p, o149_0 p, o150_0 p, o151_0 p, o152_0 p, o153_0 p, o154_0 p, o155_0 p, o156_0 p, o157_0 p, o158_0 p, o159_0 p, o160_0 p, o161_0 p, o162_0 p, o163_0 p, o164_0 p, o165_0 p, o166_0 p, o167_0 p, o168_0 p, o169_0 p, o170_0 p, o171_0 p, o172_0 p, o173_0 p, o174_0 p, o175_0 p, o176_0 p, o177_0 p, o178_0 p, o179_0 p, o180_0 p, o181_0 p, o182_0 p, o183_0 p, o184_0 p, o185_0 p, o186_0 p, o187_0 p, o188_0 p, o189_0 p, o190_0 p, o191_0 p, o192_0 p, o193_0 p, o194_0 p, o195_0 p, o196_0 p, o197_0 p, o198_0 p, o199_1 p, o200_0 p, o201_0 p, o202_0 p, o203_0 p, o204_0 p, o205_0 p, o206_0 p, o207_0 p, o208_0 p, o209_0 p, o210_0 p, o211_0 p, o212_0 p, o213_0 p, o214_0 p, o215_0 p, o216_0 p, o217_0 p, o218_0 p, o219_0 p, o220_0 p, o221_0 p, o222_0 p, o223_0 p, o224_0 p, o225_0 p, o226_0 p, o227_8 p, o228_0 p, o229_1 p, o230_0 p, o231_0 p, o232 p, o233_0 p, o234_0 p, o235_0 p, o236_0 p, o237_0 p, o238_0 p, o239_0 p, o240_0 p, o241_0 p, o242_0 p, o243_0 p, o244_0 p, o245_0 p, o246_0 p, o247_0 p, o248_0 p, o249_0 p, o250_0 p, o251_0 p, o252_0 p, o253_0 p, o254_0 p, o255_0 p, o256_0 p, o257_0 p, o258_0 p, o259_0 p, o260_0 p, o261_0 p, o262_0 p, o263_0 p, o264_0 p, o265_0 p, o266_0 p, o267_0 p, o268_0 p, o269_0 p, o270_0 p, o271_0 p, o272_0 p, o273_0 p, o274_0 p, o275_0 p, o276_0 p, o277_0 p, o278_0 p, o279_0 p, o280_0 p, o281_0 p, o282_0 p, o283_0 p, o284_0 p, o285_0 p, o286_0 p, o287_0 p, o288_0 p, o289_0 p, o290_0 p, o291_0 p, o292_0 p, o293_0 p, o294_0 p, o295_0 p, o296_0 p, o297_0 p, o298_0 p, o299_0 p, o300_0 p, o301_0 p, o302_0 p, o303_0 p, o304_0 p, o305_0 p, o306_0 p, o307_0 p, o308_0 p, o309_0 p, o310_0 p, o311_0 p, o312_0 p, o313_0 p, o314_0 p, o315_0 p, o316_0 p, o317_0 p, o318_0 p, o319_0 p, o320_0 p, o321_0 p, o322_0 p, o323_0 p, o324_0 p, o325_0 p, o326_0 p, o327_0 p, o328_0 p, o329_0 p, o330_0 p, o331_0 p, o332_0 p, o333_0 p, o334_0 p, o335_0 p, o336_0 p, o337_0 p, o338_0 p, o339_0 p, o340_0 p, o341_0 p, o342_0 p, o343_0 p, o344_0 p, o345_0 p, o346_0 p, o347_0 p, o348_0 p, o349_0 p, o350_0 p, o351_0 p, o352_0 p, o353_0 p, o354_0 p, o355_0 p, o356_0 p, o357_0 p, o358_0 p, o359_0 p, o360_0 p, o361_0 p, o362_0 p, o363_0 p, o364_0 p, o365_0 p, o366_0 p, o367_0 p, o368_0 p, o369_0 p, o370_0 p]
noncomputable def Lg (p : Params) : List Obj := [o0_0 p, o1_0 p, o2_1 p, o3_6 p, o4_0 p, o5_0 p, o6_0 p, o7_0 p, o8_0 p, o9_0 p, o10_0 p, o11_0 p, o12_6 p, o13_0 p, o14_0 p, o15_0 p, o16_0 p, o17_0 p, o18_0 p, o19_0 p, o20_0 p, o21_0 p, o22_0 p, o23_0 p, o24_0 p, o25_0 p, o26_0 p, o27_0 p, o28_0 p, o29_0 p, o30_0 p, o31_0 p, o32_0 p, o33_0 p, o34_0 p, o35_0 p, o36_0 p, o37_0 p, o38_0 p, o39_0 p, o40_0 p, o41_0 p, o42_0 p, o43_0 p, o44_0 p, o45_0 p, o46_0 p, o47_0 p, o48_0 p, o49_0 p, o50_0 p, o51_0 p, o52_0 p, o53_0 p, o54_0 p, o55_0 p, o56_0 p, o57_0 p, o58_0 p, o59_0 p, o60_0 p, o61_0 p, o62_0 p, o63_0 p, o64_0 p, o65_0 p, o66_0 p, o67_0 p, o68_0 p, o69_0 p, o70_0 p, o71_0 p, o72_0 p, o73_0 p, o74_0 p, o75_0 p, o76_0 p, o77_0 p, o78_0 p, o79_0 p, o80_0 p, o81_0 p, o82_0 p, o83_0 p, o84_0 p, o85_0 p, o86_0 p, o87_0 p, o88_0 p, o89_0 p, o90_0 p, o91_0 p, o92_0 p, o93_0 p, o94_0 p, o95_0 p, o96_0 p, o97_0 p, o98_0 p, o99_0 p, o100_0 p, o101_0 p, o102_0 p, o103_0 p, o104_0 p, o105_0 p, o106_0 p, o107_0 p, o108_0 p, o109_0 p, o110_0 p, o111_0 p, o112_0 p, o113_0 p, o114_0 p, o115_0 p, o116_0 p, o117_0 p, o118_0 p, o119_0 p, o120_0 p, o121_0 p, o122_0 p, o123_0 p, o124_0 p, o125_0 p, o126_0 p, o127_0 p, o128_0 p, o129_0 p, o130_0 p, o131_0 p, o132_0 p, o133_0 p, o134_0 p, o135_0 p, o136_0 p, o137_0 p, o138_0 p, o139_0 p, o140_0 p, o141_0 p, o142_0 p, o143_0 p, o144_0 p, o145_0 p, o146_0 p, o147_0 p, o148_0 p, o149_0 p, o150_0 p, o151_0 p, o152_0 p, o153_0 p, o154_0 p, o155_0 p, o156_0 p, o157_0 p, o158_0 p, o159_0 p, o160_0 p, o161_0 p, o162_0 p, o163_0 p, o164_0 p, o165_0 p, o166_0 p, o167_0 p, o168_0 p, o169_0 p, o170_0 p, o171_0 p, o172_0 p, o173_0 p, o174_0 p, o175_0 p, o176_0 p, o177_0 p, o178_0 p, o179_0 p, o180_0 p, o181_0 p, o182_0 p, o183_0 p, o184_0 p, o185_0 p, o186_0 p, o187_0 p, o188_0 p, o189_0 p, o190_0 p, o191_0 p, o192_0 p, o193_0 p, o194_0 p, o195_0 p, o196_0 p, o197_0 p, o198_0 p, o199_1 p, o200_0 p, o201_0 p, o202_0 p, o203_0 p, o204_0 p, o205_0 p, o206_0 p, o207_0 p, o208_0 p, o209_0 p, o210_0 p, o211_0 p, o212_0 p, o213_0 p, o214_0 p, o215_0 p, o216_0 p, o217_0 p, o218_0 p, o219_0 p, o220_0 p, o221_0 p, o222_0 p, o223_0 p, o224_0 p, o225_0 p, o226_0 p, o227_8 p, o228_0 p, o229_1 p, o230_0 p, o231_0 p, o232 p, o233_0 p, o234_0 p, o235_0 p, o236_0 p, o237_0 p, o238_0 p, o239_0 p, o240_0 p, o241_0 p, o242_0 p, o243_0 p, o244_0 p, o245_0 p, o246_0 p, o247_0 p, o248_0 p, o249_0 p, o250_0 p, o251_0 p, o252_0 p, o253_0 p, o254_0 p, o255_0 p, o256_0 p, o257_0 p, o258_0 p, o259_0 p, o260_0 p, o261_0 p, o262_0 p, o263_0 p, o264_0 p, o265_0 p, o266_0 p, o267_0 p, o268_0 p, o269_0 p, o270_0 p, o271_0 p, o272_0 p, o273_0 p, o274_0 p, o275_0 p, o276_0 p, o277_0 p, o278_0 p, o279_0 p, o280_0 p, o281_0 p, o282_0 p, o283_0 p, o284_0 p, o285_0 p, o286_0 p, o287_0 p, o288_0 p, o289_0 p, o290_0 p, o291_0 p, o292_0 p, o293_0 p, o294_0 p, o295_0 p, o296_0 p, o297_0 p, o298_0 p, o299_0 p, o300_0 p, o301_0 p, o302_0 p, o303_0 p, o304_0 p, o305_0 p, o306_0 p, o307_0 p, o308_0 p, o309_0 p, o310_0 p, o311_0 p, o312_0 p, o313_0 p, o314_0 p, o315_0 p, o316_0 p, o317_0 p, o318_0 p, o319_0 p, o320_0 p, o321_0 p, o322_0 p, o323_0 p, o324_0 p, o325_0 p, o326_0 p, o327_0 p, o328_0 p, o329_0 p, o330_0 p, o331_0 p, o332_0 p, o333_0 p, o334_0 p, o335_0 p, o336_0 p, o337_0 p, o338_0 p, o339_0 p, o340_0 p, o341_0 p, o342_0 p, o343_0 p, o344_0 p, o345_0 p, o346_0 p, o347_0 p, o348_0 p, o349_0 p, o350_0 p, o351_0 p, o352_0 p, o353_0 p, o354_0 p, o355_0 p, o356_0 p, o357_0 p, o358_0 p, o359_0 p, o360_0 p, o361_0 p, o362_0 p, o363_0 p, o364_0 p, o365_0 p, o366_0 p, o367_0 p, o368_0 p, o369_0 p, o370_0 p, o371_0 p, o372_0 p, o373_0 p, o374_0 p, o375_0 p, o376_0 p, o377_0 p, o378_0 p, o379_0 p, o380_0 p]
noncomputable def Lh (p : Params) : List Obj := [o0_0 p, o1_0 p, o2_1 p, o3_7 p, o4_0 p, o5_0 p, o6_0 p, o7_0 p, o8_0 p, o9_0 p, o10_0 p, o11_0 p, o12_7 p, o13_0 p, o14_0 p, o15_0 p, o16_0 p, o17_0 p, o18_0 p, o19_0 p, o20_0 p, o21_0 p, o22_0 p, o23_0 p, o24_0 p, o25_0 p, o26_0 p, o27_0 p, o28_0 p, o29_0 p, o30_0 p, o31_0 p, o32_0 p, o33_0 p, o34_0 p, o35_0 p, o36_0 p, o37_0 p, o38_0 p, o39_0 p, o40_0 p, o41_0 p, o42_0 p, o43_0 p, o44_0 p, o45_0 p, o46_0 p, o47_0 p, o48_0 p, o49_0 p, o50_0 p, o51_0 p, o52_0 p, o53_0 p, o54_0 p, o55_0 p, o56_0 p, o57_0 p, o58_0 p, o59_0 p, o60_0 p, o61_0 p, o62_0 p, o63_0 p, o64_0 p, o65_0 p, o66_0 p, o67_0 p, o68_0 p, o69_0 p, o70_0 p, o71_0 p, o72_0 p, o73_0 p, o74_0 p, o75_0 p, o76_0 p, o77_0 p, o78_0 p, o79_0 p, o80_0 p, o81_0 p, o82_0 p, o83_0 p, o84_0 p, o85_0 p, o86_0 p, o87_0 p, o88_0 p, o89_0 p, o90_0 p, o91_0 p, o92_0 p, o93_0 p, o94_0 p, o95_0 p, o96_0 p, o97_0 p, o98_0 p, o99_0 p, o100_0 p, o101_0 p, o102_0 p, o103_0 p, o104_0 p, o105_0 p, o106_0 p, o107_0 p, o108_0 p, o109_0 p, o110_0 p, o111_0 p, o112_0 p, o113_0 p, o114_0 p, o115_0 p, o116_0 p, o117_0 p, o118_0 p, o119_0 p, o120_0 p, o121_0 p, o122_0 p, o123_0 p, o124_0 p, o125_0 p, o126_0 p, o127_0 p, o128_0 p, o129_0 p, o130_0 p, o131_0 p, o132_0 p, o133_0 p, o134_0 p, o135_0 p, o136_0 p, o137_0 p, o138_0 p, o139_0 p, o140_0 p, o141_0 p, o142_0 p, o143_0 p, o144_0 p, o145_0 p, o146_0 p, o147_0 p, o148_0 p, o149_0 p, o150_0 p, o151_0 p, o152_0 p, o153_0 p, o154_0 p, o155_0 p, o156_0 p, o157_0 p, o158_0 p, o159_0 p, o160_0 p, o161_0 p, o162_0 p, o163_0 p, o164_0 p, o165_0 p, o166_0 p, o167_0 p, o168_0 p, o169_0 p, o170_0 p, o171_0 p, o172_0 p, o173_0 p, o174_0 p, o175_0 p, o176_0 p, o177_0 p, o178_0 p, o179_0 p, o180_0 p, o181_0 p, o182_0 p, o183_0 p, o184_0 p, o185_0 p, o186_0 p, o187_0 p, o188_0 p, o189_0 p, o190_0 p, o191_0 p, o192_0 p, o193_0 p, o194_0 p, o195_0 p, o196_0 p, o197_0 p, o198_0 p, o199_1 p, o200_0 p, o201_0 p, o202_0 p, o203_0 p, o204_0 p, o205_0 p, o206_0 p, o207_0 p, o208_0 p, o209_0 p, o210_0 p, o211_0 p, o212_0 p, o213_0 p, o214_0 p, o215_0 p, o216_0 p, o217_0 p, o218_0 p, o219_0 p, o220_0 p, o221_0 p, o222_0 p, o223_0 p, o224_0 p, o225_0 p, o226_0 p, o227_8 p, o228_0 p, o229_1 p, o230_0 p, o231_0 p, o232 p, o233_0 p, o234_0 p, o235_0 p, o236_0 p, o237_0 p, o238_0 p, o239_0 p, o240_0 p, o241_0 p, o242_0 p, o243_0 p, o244_0 p, o245_0 p, o246_0 p, o247_0 p, o248_0 p, o249_0 p, o250_0 p, o251_0 p, o252_0 p, o253_0 p, o254_0 p, o255_0 p, o256_0 p, o257_0 p, o258_0 p, o259_0 p, o260_0 p, o261_0 p, o262_0 p, o263_0 p, o264_0 p, o265_0 p, o266_0 p, o267_0 p, o268_0 p, o269_0 p, o270_0 p, o271_0 p, o272_0 p, o273_0 p, o274_0 p, o275_0 p, o276_0 p, o277_0 p, o278_0 p, o279_0 p, o280_0 p, o281_0 p, o282_0 p, o283_0 p, o284_0 p, o285_0 p, o286_0 p, o287_0 p, o288_0 p, o289_0 p, o290_0 p, o291_0 p, o292_0 p, o293_0 p, o294_0 p, o295_0 p, o296_0 p, o297_0 p, o298_0 p, o299_0 p, o300_0 p, o301_0 p, o302_0 p, o303_0 p, o304_0 p, o305_0 p, o306_0 p, o307_0 p, o308_0 p, o309_0 p, o310_0 p, o311_0 p, o312_0 p, o313_0 p, o314_0 p, o315_0 p, o316_0 p, o317_0 p, o318_0 p, o319_0 p, o320_0 p, o321_0 p, o322_0 p, o323_0 p, o324_0 p, o325_0 p, o326_0 p, o327_0 p, o328_0 p, o329_0 p, o330_0 p, o331_0 p, o332_0 p, o333_0 p, o334_0 p, o335_0 p, o336_0 p, o337_0 p, o338_0 p, o339_0 p, o340_0 p, o341_0 p, o342_0 p, o343_0 p, o344_0 p, o345_0 p, o346_0 p, o347_0 p, o348_0 p, o349_0 p, o350_0 p, o351_0 p, o352_0 p, o353_0 p, o354_0 p, o355_0 p, o356_0 p, o357_0 p, o358_0 p, o359_0 p, o360_0 p, o361_0 p, o362_0 p, o363_0 p, o364_0 p, o365_0 p, o366_0 p, o367_0 p, o368_0 p, o369_0 p, o370_0 p, o371_0 p, o372_0 p, o373_0 p, o374_0 p, o375_0 p, o376_0 p, o377_0 p, o378_0 p, o379_0 p, o380_0 p, o381_0 p, o382_0 p, o383_0 p, o384_0 p, o385_0 p, o386_0 p, o387_0 p, o388_0 p, o389_0 p, o390_0 p, o391_0 p, o392_0 p, o393_0 p, o394_0 p, o395_0 p, o396_0 p, o397_0 p, o398_0 p, o399_0 p, o400_0 p, o401_0 p, o402_0 p, o403_0 p, o404_0 p, o405_0 p, o406_0 p, o407_0 p, o408_0 p, o409_0 p]
noncomputable def Li (p : Params) : List Obj := [o0_0 p, o1_0 p, o2_1 p, o3_8 p, o4_0 p, o5_0 p, o6_0 p, o7_0 p, o8_0 p, o9_0 p, o10_0 p, o11_0 p, o12_7 p, o13_0 p, o14_0 p, o15_0 p, o16_0 p, o17_0 p, o18_0 p, o19_0 p, o20_0 p, o21_0 p, o22_0 p, o23_0 p, o24_0 p, o25_0 p, o26_0 p, o27_0 p, o28_0 p, o29_0 p, o30_0 p, o31_0 p, o32_0 p, o33_0 p, o34_0 p, o35_0 p, o36_0 p, o37_0 p, o38_0 p, o39_0 p, o40_0 p, o41_0 p, o42_0 p, o43_0 p, o44_0 p, o45_0 p, o46_0 p, o47_0 p, o48_0 p, o49_0 p, o50_0 p, o51_0 p, o52_0 p, o53_0 p, o54_0 p, o55_0 p, o56_0 p, o57_0 p, o58_0 p, o59_0 p, o60_0 p, o61_0 p, o62_0 p, o63_0 p, o64_0 p, o65_0 p, o66_0 p, o67_0 p, o68_0 p, o69_0 p, o70_0 p, o71_0 p, o72_0 p, o73_0 p, o74_0 p, o75_0 p, o76_0 p, o77_0 p, o78_0 p, o79_0 p, o80_0 p, o81_0 p, o82_0 p, o83_0 p, o84_0 p, o85_0 p, o86_0 p, o87_0 p, o88_0 p, o89_0 p, o90_0 p, o91_0 p, o92_0 p, o93_0 p, o94_0 p, o95_0 p, o96_0 p, o97_0 p, o98_0 p, o99_0 p, o100_0 p, o101_0 p, o102_0 p, o103_0 p, o104_0 p, o105_0 p, o106_0 p, o107_0 p, o108_0 p, o109_0 p, o110_0 p, o111_0 p, o112_0 p, o113_0 p, o114_0 p, o115_0 p, o116_0 p, o117_0 p, o118_0 p, o119_0 p, o120_0 p, o121_0 p, o122_0 p, o123_0 p, o124_0 p, o125_0 p, o126_0 p, o127_0 p, o128_0 p, o129_0 p, o130_0 p, o131_0 p, o132_0 p, o133_0 p, o134_0 p, o135_0 p, o136_0 p, o137_0 p, o138_0 p, o139_0 p, o140_0 p, o141_0 p, o142_0 p, o143_0 p, o144_0 p, o145_0 p, o146_0 p, o147_0 p, o148_0 p, o149_0 p, o150_0 p, o151_0 p, o152_0 p, o153_0 p, o154_0 p, o155_0 p, o156_0 p, o157_0 p, o158_0 p, o159_0 p, o160_0 p, o161_0 p, o162_0 p, o163_0 p, o164_0 p, o165_0 p, o166_0 p, o167_0 p, o168_0 p, o169_0 p, o170_0 p, o171_0 p, o172_0 p, o173_0 p, o174_0 p, o175_0 p, o176_0 p, o177_0 p, o178_0 p, o179_0 p, o180_0 p, o181_0 p, o182_0 p, o183_0 p, o184_0 p, o185_0 p, o186_0 p, o187_0 p, o188_0 p, o189_0 p, o190_0 p, o191_0 p, o192_0 p, o193_0 p, o194_0 p, o195_0 p, o196_0 p, o197_0 p, o198_0 p, o199_1 p, o200_0 p, o201_0 p, o202_0 p, o203_0 p, o204_0 p, o205_0 p, o206_0 p, o207_0 p, o208_0 p, o209_0 p, o210_0 p, o211_0 p, o212_0 p, o213_0 p, o214_0 p, o215_0 p, o216_0 p, o217_0 p, o218_0 p, o219_0 p, o220_0 p, o221_0 p, o222_0 p, o223_0 p, o224_0 p, o225_0 p, o226_0 p, o227_8 p, o228_0 p, o229_1 p, o230_0 p, o231_0 p, o232 p, o233_0 p, o234_0 p, o235_0 p, o236_0 p, o237_0 p, o238_0 p, o239_0 p, o240_0 p, o241_0 p, o242_0 p, o243_0 p, o244_0 p, o245_0 p, o246_0 p, o247_0 p, o248_0 p, o249_0 p, o250_0 p, o251_0 p, o252_0 p, o253_0 p, o254_0 p, o255_0 p, o256_0 p, o257_0 p, o258_0 p, o259_0 p, o260_0 p, o261_0 p, o262_0 p, o263_0 p, o264_0 p, o265_0 p, o266_0 p, o267_0 p, o268_0 p, o269_0 p, o270_0 p, o271_0 p, o272_0 p, o273_0 p, o274_0 p, o275_0 p, o276_0 p, o277_0 p, o278_0 p, o279_0 p, o280_0 p, o281_0 p, o282_0 p, o283_0 p, o284_0 p, o285_0 p, o286_0 p, o287_0 p, o288_0 p, o289_0 p, o290_0 p, o291_0 p, o292_0 p, o293_0 p, o294_0 p, o295_0 p, o296_0 p, o297_0 p, o298_0 p, o299_0 p, o300_0 p, o301_0 p, o302_0 p, o303_0 p, o304_0 p, o305_0 p, o306_0 p, o307_0 p, o308_0 p, o309_0 p, o310_0 p, o311_0 p, o312_0 p, o313_0 p, o314_0 p, o315_0 p, o316_0 p, o317_0 p, o318_0 p, o319_0 p, o320_0 p, o321_0 p, o322_0 p, o323_0 p, o324_0 p, o325_0 p, o326_0 p, o327_0 p, o328_0 p, o329_0 p, o330_0 p, o331_0 p, o332_0 p, o333_0 p, o334_0 p, o335_0 p, o336_0 p, o337_0 p, o338_0 p, o339_0 p, o340_0 p, o341_0 p, o342_0 p, o343_0 p, o344_0 p, o345_0 p, o346_0 p, o347_0 p, o348_0 p, o349_0 p, o350_0 p, o351_0 p, o352_0 p, o353_0 p, o354_0 p, o355_0 p, o356_0 p, o357_0 p, o358_0 p, o359_0 p, o360_0 p, o361_0 p, o362_0 p, o363_0 p, o364_0 p, o365_0 p, o366_0 p, o367_0 p, o368_0 p, o369_0 p, o370_0 p, o371_0 p, o372_0 p, o373_0 p, o374_0 p, o375_0 p, o376_0 p, o377_0 p, o378_0 p, o379_0 p, o380_0 p, o381_0 p, o382_0 p, o383_0 p, o384_0 p, o385_0 p, o386_0 p, o387_0 p, o388_0 p, o389_0 p, o390_0 p, o391_0 p, o392_0 p, o393_0 p, o394_0 p, o395_0 p, o396_0 p, o397_0 p, o398_0 p, o399_0 p, o400_0 p, o401_0 p, o402_0 p, o403_0 p, o404_0 p, o405_0 p, o406_0 p, o407_0 p, o408_0 p, o409_0 p, o410_0 p, o411_0 p, o412_0 p, o413_0 p, o414_0 p, o415_0 p, o416_0 p, o417_0 p, o418_0 p, o419_0 p, o420_0 p, o421_0 p, o422_0 p, o423_0 p, o424_0 p, o425_0 p, o426_0 p, o427_0 p, o428_0 p]
noncomputable def Lj (p : Params) : List Obj := [o0_0 p, o1_0 p, o2_1 p, o3_9 p, o4_0 p, o5_0 p, o6_0 p, o7_0 p, o8_0 p, o9_0 p, o10_0 p, o11_0 p, o12_8 p, o13_0 p, o14_0 p, o15_0 p, o16_0 p, o17_0 p, o18_0 p, o19_0 p, o20_0 p, o21_0 p, o22_0 p, o23_0 p, o24_0 p, o25_0 p, o26_0 p, o27_0 p, o28_0 p, o29_0 p, o30_0 p, o31_0 p, o32_0 p, o33_0 p, o34_0 p, o35_0 p, o36_0 p, o37_0 p, o38_0 p, o39_0 p, o40_0 p, o41_0 p, o42_0 p, o43_0 p, o44_0 p, o45_0 p, o46_0 p, o47_0 p, o48_0 p, o49_0 p, o50_0 p, o51_0 p, o52_0 p, o53_0 p, o54_0 p, o55_0 p, o56_0 p, o57_0 p, o58_0 p, o59_0 p, o60_0 p, o61_0 p, o62_0 p, o63_0 p, o64_0 p, o65_0 p, o66_0 p, o67_0 p, o68_0 p, o69_0 p, o70_0 p, o71_0 p, o72_0 p, o73_0 p, o74_0 p, o75_0 p, o76_0 p, o77_0 p, o78_0 p, o79_0 p, o80_0 p, o81_0 p, o82_0 p, o83_0 p, o84_0 p, o85_0 p, o86_0 p, o87_0 p, o88_0 p, o89_0 p, o90_0 p, o91_0 p, o92_0 p, o93_0 p, o94_0 p, o95_0 p, o96_0 p, o97_0 p, o98_0 p, o99_0 p, o100_0 p, o101_0 p, o102_0 p, o103_0 p, o104_0 p, o105_0 p, o106_0 p, o107_0 p, o108_0 p, o109_0 p, o110_0 p, o111_0 p, o112_0 p, o113_0 p, o114_0 p, o115_0 p, o116_0 p, o117_0 p, o118_0 p, o119_0 p, o120_0 p, o121_0 p, o122_0 p, o123_0 p, o124_0 p, o125_0 p, o126_0 p, o127_0 p, o128_0 p, o129_0 p, o130_0 p, o131_0 p, o132_0 p, o133_0 p, o134_0 p, o135_0 p, o136_0 p, o137_0 p, o138_0 p, o139_0 p, o140_0 p, o141_0 p, o142_0 p, o143_0 p, o144_0 p, o145_0 p, o146_0 p, o147_0 p, o148_0 p, o149_0 p, o150_0 p, o151_0 p, o152_0 p, o153_0 p, o154_0 p, o155_0 p, o156_0 p, o157_0 p, o158_0 p, o159_0 p, o160_0 p, o161_0 p, o162_0 p, o163_0 p, o164_0 p, o165_0 p, o166_0 p, o167_0 p, o168_0 p, o169_0 p, o170_0 p, o171_0 p, o172_0 p, o173_0 p, o174_0 p, o175_0 p, o176_0 p, o177_0 p, o178_0 p, o179_0 p, o180_0 p, o181_0 p, o182_0 p, o183_0 p, o184_0 p, o185_0 p, o186_0 p, o187_0 p, o188_0 p, o189_0 p, o190_0 p, o191_0 p, o192_0 p, o193_0 p, o194_0 p, o195_0 p, o196_0 p, o197_0 p, o198_0 p, o199_1 p, o200_0 p, o201_0 p, o202_0 p, o203_0 p, o204_0 p, o205_0 p, o206_0 p, o207_0 p, o208_0 p, o209_0 p, o210_0 p, o211_0 p, o212_0 p, o213_0 p, o214_0 p, o215_0 p, o216_0 p, o217_0 p, o218_0 p, o219_0 p, o220_0 p, o221_0 p, o222_0 p, o223_0 p, o224_0 p, o225_0 p, o226_0 p, o227_8 p, o228_0 p, o229_1 p, o230_0 p, o231_0 p, o232 p, o233_0 p, o234_0 p, o235_0 p, o236_0 p, o237_0 p, o238_0 p, o239_0 p, o240_0 p, o241_0 p, o242_0 p, o243_0 p, o244_0 p, o245_0 p, o246_0 p, o247_0 p, o248_0 p, o249_0 p, o250_0 p, o251_0 p, o252_0 p, o253_0 p, o254_0 p, o255_0 p, o256_0 p, o257_0 p, o258_0 p, o259_0 p, o260_0 p, o261_0 p, o262_0 p, o263_0 p, o264_0 p, o265_0 p, o266_0 p, o267_0 p, o268_0 p, o269_0 p, o270_0 p, o271_0 p, o272_0 p, o273_0 p, o274_0 p, o275_0 p, o276_0 p, o277_0 p, o278_0 p, o279_0 p, o280_0 p, o281_0 p, o282_0 p, o283_0 p, o284_0 p, o285_0 p, o286_0 p, o287_0 p, o288_0 p, o289_0 p, o290_0 p, o291_0 p, o292_0 p, o293_0 p, o294_0 p, o295_0 p, o296_0 p, o297_0 p, o298_0 p, o299_0 p, o300_0 p, o301_0 p, o302_0 p, o303_0 p, o304_0 p, o305_0 p, o306_0 p, o307_0 p, o308_0 p, o309_0 p, o310_0 p, o311_0 p, o312_0 p, o313_0 p, o314_0 p, o315_0 p, o316_0 p, o317_0 p, o318_0 p, o319_0 p, o320_0 p, o321_0 p, o322_0 p, o323_0 p, o324_0 p, o325_0 p, o326_0 p, o327_0 p, o328_0 p, o329_0 p, o330_0 p, o331_0 p, o332_0 p, o333_0 p, o334_0 p, o335_0 p, o336_0 p, o337_0 p, o338_0 p, o339_0 p, o340_0 p, o341_0 p, o342_0 p, o343_0 p, o344_0 p, o345_0 p, o346_0 p, o347_0 p, o348_0 p, o349_0 p, o350_0 p, o351_0 p, o352_0 p, o353_0 p, o354_0 p, o355_0 p, o356_0 p, o357_0 p, o358_0 p, o359_0 p, o360_0 p, o361_0 p, o362_0 p, o363_0 p, o364_0 p, o365_0 p, o366_0 p, o367_0 p, o368_0 p, o369_0 p, o370_0 p, o371_0 p, o372_0 p, o373_0 p, o374_0 p, o375_0 p, o376_0 p, o377_0 p, o378_0 p, o379_0 p, o380_0 p, o381_0 p, o382_0 p, o383_0 p, o384_0 p, o385_0 p, o386_0 p, o387_0 p, o388_0 p, o389_0 p, o390_0 p, o391_0 p, o392_0 p, o393_0 p, o394_0 p, o395_0 p, o396_0 p, o397_0 p, o398_0 p, o399_0 p, o400_0 p, o401_0 p, o402_0 p, o403_0 p, o404_0 p, o405_0 p, o406_0 p, o407_0 p, o408_0 p, o409_0 p, o410_0 p, o411_0 p, o412_0 p, o413_0 p, o414_0 p, o415_0 p, o416_0 p, o417_0 p, o418_0 p, o419_0 p, o420_0 p, o421_0 p, o422_0 p, o423_0 p, o424_0 p, o425_0 p, o426_0 p, o427_0 p, o428_0 p, o429_0 p, o430_0 p, o431_0 p, o432_0 p, o433_0 p, o434_0 p, o435_0 p, o436_0 p, o437_0 p, o438_0 p, o439_0 p, o440_0 p, o441_0 p, o442_0 p, o443_0 p, o444_0 p, o445_0 p, o446_0 p, o447_0 p, o448_0 p, o449_0 p, o450_0 p, o451_0 p, o452_0 p, o453_0 p, o454_0 p, o455_0 p, o456_0 p, o457_0 p, o458_0 p, o459_0 p, o460_0 p, o461_0 p, o462_0 p, o463_0 p, o464_0 p, o465_0 p, o466_0 p]

noncomputable def ev : List Obj → List Obj
  | [] => []
  | [x] => [x]
  | x :: _ :: r => x :: ev r
noncomputable def od : List Obj → List Obj
  | [] => []
  | [_] => []
  | _ :: y :: r => y :: od r
noncomputable def tre : Nat → List Obj → BT
  | 0, _ => .nil
  | _ + 1, [] => .nil
  | n + 1, x :: r => .node x (tre n (ev r)) (tre n (od r))
noncomputable def S (l : Params → List Obj) (n tk : Nat) (w : World) (os : OsState) : SharedT := ⟨tre 12 (l w.params), n, {}, ⟨[]⟩, {}, tk, os⟩
noncomputable def tEnv : Env := { scope := pr.main.scope, locals := mainNs, globals := mainNs, cells := [], code := .ref 13, frame := some 14 }
noncomputable def bE : List Stmt := behindTheImports pr
noncomputable def cE : Code := .body bE tEnv
noncomputable def p0 : Pos := { line := 0, col := 0, endLine := 0, endCol := 0 }
noncomputable def nn : Option Value := some (.ref 6)
end Mine
end
section
set_option autoImplicit false
set_option maxRecDepth 1000000
set_option linter.all false
namespace Mine
open PySem PySem.W PySem.Calls PyProof.Rows
noncomputable def p_b : Pos := { line := 4, col := 0, endLine := 4, endCol := 8 }
noncomputable def p_c : Pos := { line := 5, col := 0, endLine := 197, endCol := 17 }
noncomputable def p_d : Pos := { line := 205, col := 0, endLine := 205, endCol := 8 }
noncomputable def p_o : Pos := { line := 206, col := 0, endLine := 515, endCol := 50 }
noncomputable def p_p : Pos := { line := 207, col := 4, endLine := 207, endCol := 11 }
noncomputable def p_q : Pos := { line := 430, col := 4, endLine := 510, endCol := 19 }
noncomputable def p_r : Pos := { line := 511, col := 4, endLine := 511, endCol := 7 }
noncomputable def p_s : Pos := { line := 512, col := 4, endLine := 512, endCol := 7 }
noncomputable def p_t : Pos := { line := 513, col := 4, endLine := 513, endCol := 7 }
noncomputable def p_u : Pos := { line := 514, col := 4, endLine := 514, endCol := 7 }
noncomputable def p_v : Pos := { line := 515, col := 4, endLine := 515, endCol := 7 }
noncomputable def p_e : Pos := { line := 206, col := 0, endLine := 515, endCol := 50 }
noncomputable def p_f : Pos := { line := 518, col := 0, endLine := 519, endCol := 8 }
noncomputable def p_g : Pos := { line := 525, col := 0, endLine := 525, endCol := 12 }
noncomputable def p_h : Pos := { line := 532, col := 0, endLine := 533, endCol := 110 }
noncomputable def p_i : Pos := { line := 534, col := 0, endLine := 534, endCol := 10 }
noncomputable def p_j : Pos := { line := 574, col := 0, endLine := 584, endCol := 15 }
noncomputable def p_a : Pos := { line := 0, col := 0, endLine := 0, endCol := 0 }
noncomputable def restE : List Stmt := [topSt 7, topSt 8, topSt 9, topSt 10, topSt 11, topSt 12, topSt 13, topSt 14, topSt 15, topSt 16, topSt 17, topSt 18, topSt 19, topSt 20, topSt 21, topSt 22, topSt 23, topSt 24, topSt 25]
theorem be_eq : bE = topSt 0 :: topSt 1 :: topSt 2 :: topSt 3 :: topSt 4 :: topSt 5 :: topSt 6 :: restE := by kernel_rfl
noncomputable def hA (p : Params) : Heap := ⟨⟨La p⟩, {}⟩
noncomputable def sA (w : World) (os : OsState) : Shared := ⟨hA w.params, ⟨[]⟩, {}, 187, os⟩
theorem pre_ (w : World) (os : OsState) : topGo treeTable pr w 11 nn 12 ⟨boot_heap w.params, ⟨[]⟩, boot_drawn, boot_toks, os⟩ (topStub pr) = some (sA w os, ⟨denote treeTable cE, cE, p0, [topFrame p0]⟩) := by
  kernel_rfl
theorem block_ (w : World) (os : OsState) : segRun treeTable pr w 11 nn 1 1 (sA w os) (blockOf bE tEnv cE p0 [topFrame p0]) = some (.next, (S La 15 187 w os).abs, cE, p0) := by kernel_rfl
theorem g_b (w : World) (os : OsState) : segRunT treeTable pr w 11 nn 1 39 (S La 15 187 w os) (piecesOf [topSt 0, topSt 1] tEnv cE p_a [topFrame p0]) = some (.next, S Lb 22 196 w os, cE, p_b) := by
  rw [Fast.te10110043849684766642]; kernel_rfl
theorem g_c (w : World) (os : OsState) : segRunT treeTable pr w 11 nn 1 988 (S Lb 22 196 w os) (piecesOf [topSt 2] tEnv cE p_b [topFrame p0]) = some (.next, S Lc 204 438 w os, cE, p_c) := by
  rw [Fast.te10110043849684766642]; kernel_rfl
theorem g_d (w : World) (os : OsState) : segRunT treeTable pr w 11 nn 1 245 (S Lc 204 438 w os) (piecesOf [topSt 3, topSt 4, topSt 5] tEnv cE p_c [topFrame p0]) = some (.next, S Ld 225 475 w os, cE, p_d) := by
  rw [Fast.te10110043849684766642]; kernel_rfl

noncomputable def clsS : Stmt → Scope
  | .ClassDef _ _ _ _ _ _ s .. => s
  | _ => default
noncomputable def cB : List Stmt := clsB (topSt 6)
noncomputable def cEnv : Env := { scope := clsS (topSt 6), locals := 227, globals := 3, cells := [], qual := Str.ofString "IndonesianStemmer.", func := none, code := .ref 230, frame := some 231, builtins := 0 }
noncomputable def cC : Code := .body cB cEnv
noncomputable def cSt : Thread := ⟨(exec (topSt 6) tEnv).wrap (fun f => match f with | .next => (execs restE tEnv).wrap doneF (leaveH tEnv) id id | f => doneF f) (leaveH tEnv) id id, cE, p_d, [topFrame p0]⟩
noncomputable def frA (w : World) (os : OsState) : Frame := match segGoT treeTable pr w 11 nn 1000 64 (S Ld 225 475 w os) cSt with
  | some (_, ⟨_, _, _, f :: _⟩) => f
  | _ => topFrame p0
noncomputable abbrev BB (w : World) (os : OsState) : List Frame := [frA w os, topFrame p0]
theorem c_in (w : World) (os : OsState) : segGoT treeTable pr w 11 nn 1000 64 (S Ld 225 475 w os) cSt = some (S Lo 232 487 w os, ⟨denote treeTable cC, cC, p_o, BB w os⟩) := by
  kernel_rfl
theorem c_spl (w : World) (os : OsState) : splitAtGen (BB w os) = none := by kernel_rfl
theorem c_block (w : World) (os : OsState) : segRun treeTable pr w 11 nn 2 1 (S Lo 232 487 w os).abs (blockOf cB cEnv cC p_o (BB w os)) = some (.next, (S Lo 232 487 w os).abs, cC, p_o) := by kernel_rfl
theorem cb_eq : cB = stN cB 0 :: stN cB 1 :: stN cB 2 :: stN cB 3 :: stN cB 4 :: stN cB 5 :: stN cB 6 :: stN cB 7 :: stN cB 8 :: stN cB 9 :: stN cB 10 :: stN cB 11 :: stN cB 12 :: [stN cB 13] := by kernel_rfl
end Mine
end
section
set_option autoImplicit false
set_option maxRecDepth 1000000
set_option linter.all false
namespace Mine
open PySem PySem.W PySem.Calls PyProof.Rows

/-! a run of single steps that no world's row bars -/
theorem topGo_add {tb : String → Option Builtin} {p : Program} {w : World} {n₀ : Nat} {ann : Option Value} : ∀ {i j : Nat} {s s1 : Shared} {t t1 : Thread} {r : Option (Shared × Thread)}, topGo tb p w n₀ ann i s t = some (s1, t1) → topGo tb p w n₀ ann j s1 t1 = r → topGo tb p w n₀ ann (i + j) s t = r
  | 0, j, s, s1, t, t1, r, h, k => by
    obtain ⟨rfl, rfl⟩ : s = s1 ∧ t = t1 := by simpa [topGo] using h
    rw [Nat.zero_add]; exact k
  | i + 1, j, s, s1, t, t1, r, h, k => by
    rw [show i + 1 + j = i + j + 1 by omega]
    unfold topGo at h ⊢
    cases ht : through t with
    | true => rw [ht] at h; cases h
    | false =>
      rw [ht] at h
      cases hk : stepOk n₀ ann t with
      | false => rw [hk] at h; cases h
      | true =>
        rw [hk] at h
        cases hs : step (denote tb) p w s t with
        | halt o s₂ => rw [hs] at h; cases h
        | go s₂ t₂ => rw [hs] at h; exact topGo_add h k

noncomputable def sh (h : Heap) (tk : Nat) (os : OsState) : Shared := ⟨h, ⟨[]⟩, {}, tk, os⟩
noncomputable def Goes (w : World) (m : Nat) {α : Type} (t : Sem α) (h : Heap) (tk : Nat) (p : Pos) (a : α) (h' : Heap) (tk' : Nat) (p' : Pos) : Prop :=
  ∃ n, n ≤ m ∧ ∀ (os : OsState) (K : α → Sem Fin) (H : Value → Sem Fin) (gd : Bool → Bool) (lv : List Value → List Value) (F : Frame) (B : List Frame),
    topGo treeTable pr w 11 nn n (sh h tk os) ⟨t.wrap K H gd lv, cC, p, F :: B⟩ = some (sh h' tk' os, ⟨K a, cC, p', F :: B⟩)
section
variable {w : World} {α β : Type} {h h1 h2 : Heap} {tk tk1 tk2 : Nat} {p p1 p2 : Pos} {i j : Nat}
theorem Goes.pure {a : α} : Goes w 0 (Pure.pure a : Sem α) h tk p a h tk p := ⟨0, Nat.le_refl _, fun os K H gd lv F B => rfl⟩
theorem Goes.mono {m n : Nat} {t : Sem α} {a : α} (g : Goes w m t h tk p a h1 tk1 p1) (hm : m ≤ n) : Goes w n t h tk p a h1 tk1 p1 := let ⟨k, hk, g⟩ := g; ⟨k, Nat.le_trans hk hm, g⟩
theorem Goes.bind {m : Sem α} {f : α → Sem β} {a : α} {b : β} (g1 : Goes w i m h tk p a h1 tk1 p1) (g2 : Goes w j (f a) h1 tk1 p1 b h2 tk2 p2) : Goes w (i + j) (m >>= f) h tk p b h2 tk2 p2 := by
  obtain ⟨n1, l1, g1⟩ := g1
  obtain ⟨n2, l2, g2⟩ := g2
  refine ⟨n1 + n2, Nat.add_le_add l1 l2, fun os K H gd lv F B => ?_⟩
  have e : (m >>= f).wrap K H gd lv = m.wrap (fun a => (f a).wrap K H gd lv) H gd lv := by
    rw [Sem.bind_eq_wrap', Sem.wrap_wrap]; rfl
  rw [e]
  exact topGo_add (g1 os _ H gd lv F B) (g2 os K H gd lv F B)
theorem Goes.holding {vs : List Value} {m : Sem α} {a : α} (g : Goes w i m h tk p a h1 tk1 p1) : Goes w i (PySem.holding vs m) h tk p a h1 tk1 p1 := by
  unfold PySem.holding
  split
  · exact g
  · obtain ⟨n1, l1, g1⟩ := g
    refine ⟨n1, l1, fun os K H gd lv F B => ?_⟩
    rw [Sem.keep_eq_wrap, Sem.wrap_wrap]
    exact g1 os _ _ _ _ F B
theorem Goes.load {x : Addr} {o : Obj} (ho : h.get? x = some o) : Goes w 1 (PySem.load x) h tk p o h tk p := by
  refine ⟨1, Nat.le_refl _, fun os K H gd lv F B => ?_⟩
  show (match (match h.get? x with | some o => _ | none => _ : Step) with | .go s' t' => topGo treeTable pr w 11 nn 0 s' t' | .halt _ _ => none) = _
  rw [ho]; rfl
theorem Goes.rule {t : String} : Goes w 1 (PySem.rule t) h tk p () h tk p := ⟨1, Nat.le_refl _, fun os K H gd lv F B => rfl⟩
theorem Goes.update {o : Obj} {f : Obj → Obj} (ho : h.get? 232 = some o) : Goes w 1 (PySem.update 232 f) h tk p () (h.update 232 f) tk p := by
  refine ⟨1, Nat.le_refl _, fun os K H gd lv F B => ?_⟩
  show (match (if (h.get? 232).isSome then _ else _ : Step) with | .go s' t' => topGo treeTable pr w 11 nn 0 s' t' | .halt _ _ => none) = _
  rw [ho]; rfl
end

structure SInv (w : World) (S : Str → Bool) (n : Nat) (D : SD) : Prop where
  el : ElemsOf (PySem.strKind pr w) D.1.toList
  mem : ∀ k, S k = true ↔ ∃ e ∈ D.1.toList, Value.isStrOf k e.2 = true
  size : D.1.size = n
  fits : D.2.2.fits D.1.size = true
section
variable {w : World} {h : Heap} {tk : Nat} {p : Pos} {D : SD}
theorem Goes.state {es : Array (Int × Value)} {ep : Nat} {t : SetTable} (ho : h.get? 232 = some (setO (es, ep, t))) (hf : t.fits es.size = true) : Goes w 1 (setState 232) h tk p (es, ep, t) h tk p := by
  unfold setState
  refine Goes.bind (i := 1) (j := 0) (Goes.load ho) ?_
  show Goes w 0 (if (t.place.size != es.size || decide (t.fill > t.mask)) = true then _ else _) _ _ _ _ _ _ _
  have hc : (t.place.size != es.size || decide (t.fill > t.mask)) = false := by
    simp only [SetTable.fits, Bool.and_eq_true, beq_iff_eq, decide_eq_true_eq] at hf
    simp [hf.1, Nat.not_lt.mpr hf.2]
  rw [hc]
  exact Goes.pure
theorem get_push (h : Heap) (hs : h.objs.size = 232) (D : SD) : (h.push (setO D)).get? 232 = some (setO D) := by
  have := Heap.get?_push_size h (o := setO D) rfl
  rw [hs] at this
  exact this
theorem update_push (h : Heap) (hs : h.objs.size = 232) (D : SD) (es : Array (Int × Value)) (t : SetTable) : (h.push (setO D)).update 232 (Obj.putSet es t) = h.push (setO (es, D.2.1 + 1, t)) := by
  obtain ⟨objs, l⟩ := h
  show (⟨(objs.push (setO D)).modify 232 _, l⟩ : Heap) = ⟨objs.push _, l⟩
  congr 1
  apply Array.ext
  · simp
  · intro i h1 h2
    have hs : objs.size = 232 := hs
    rw [Array.getElem_modify]
    simp only [Array.size_push, Array.size_modify] at h1 h2
    by_cases e : 232 = i
    · subst e
      rw [if_pos rfl, Array.getElem_push, Array.getElem_push, dif_neg (by omega), dif_neg (by omega)]
      rfl
    · rw [if_neg e, Array.getElem_push, Array.getElem_push]
      rw [dif_pos (by omega), dif_pos (by omega)]
theorem Goes.store (hs : h.objs.size = 232) (es : Array (Int × Value)) (t : SetTable) (hz : es.size ≤ sizeLine) : Goes w 2 (storeSet 232 es t) (h.push (setO D)) tk p () (h.push (setO (es, D.2.1 + 1, t))) tk p := by
  unfold storeSet
  refine Goes.bind (i := 1) (j := 1) (Goes.load (get_push h hs D)) ?_
  show Goes w 1 (if es.size > sizeLine then _ else _) _ _ _ _ _ _ _
  rw [if_neg (Nat.not_lt.mpr hz), ← update_push h hs D]
  exact Goes.update (get_push h hs D)
theorem addD_inv {S : Str → Bool} {n : Nat} (I : SInv w S n D) (x : Str) (t : Tok) (hx : S x = false) (hn : n < 100) : SInv w (fun k => S k || decide (k = x)) (n + 1) (addD (hashStr w x) (.str x t) D) := by
  obtain ⟨es, ep, tb⟩ := D
  obtain ⟨hel, hmem, hsz, hf⟩ := I
  dsimp only at hel hmem hsz hf
  have hkey : (PySem.strKind pr w).is x (.str x t) = true := by show (x == x) = true; simp
  have hperm := layNew_perm tb es (hashStr w x) (.str x t)
  have hfits := layNew_fits tb es (hashStr w x) (.str x t)
  unfold addD
  dsimp only
  generalize layNew tb es (hashStr w x) (.str x t) = L at hperm hfits ⊢
  obtain ⟨es1, t1, wd, gv⟩ := L
  dsimp only at hperm hfits ⊢
  rw [Array.toList_push] at hperm
  have hel1 : ElemsOf (PySem.strKind pr w) es1.toList := (ElemsOf.push hel hkey rfl).perm hperm
  have hmem1 : ∀ k', (S k' || decide (k' = x)) = true ↔ ∃ e ∈ es1.toList, (PySem.strKind pr w).is k' e.2 = true := mem_push_iff (knd := PySem.strKind pr w) hkey hmem hperm
  have hsz1 : es1.size = n + 1 := by rw [← Array.length_toList, hperm.length_eq, List.length_append, Array.length_toList, hsz]; rfl
  have hf1 : (if t1.plain then ({ t1 with plain := false } : SetTable) else t1).fits es1.size = true := by
    split
    · exact SetTable.fits_plain_off hfits
    · exact hfits
  generalize (if t1.plain then ({ t1 with plain := false } : SetTable) else t1) = t2 at hf1 ⊢
  split
  · have hp := relayAll_perm t2 es1 (SetTable.grown es1.size)
    have hfr := relayAll_fits t2 es1 (SetTable.grown es1.size)
    refine ⟨hel1.perm hp, fun k' => (hmem1 k').trans ⟨fun ⟨e, he, q⟩ => ⟨e, hp.mem_iff.mpr he, q⟩, fun ⟨e, he, q⟩ => ⟨e, hp.mem_iff.mp he, q⟩⟩, ?_, hfr⟩
    show (relayAll t2 es1 (SetTable.grown es1.size)).1.size = n + 1
    rw [← Array.length_toList, hp.length_eq, Array.length_toList, hsz1]
  · exact ⟨hel1, hmem1, hsz1, hf1⟩
theorem Goes.add {S : Str → Bool} {n : Nat} (hs : h.objs.size = 232) (I : SInv w S n D) (x : Str) (t : Tok) (hx : S x = false) (hn : n < 100) :
    Goes w 20 (setAddHashed 232 (.str x t) (hashStr w x)) (h.push (setO D)) tk p true (h.push (setO (addD (hashStr w x) (.str x t) D))) tk p := by
  have J := addD_inv I x t hx hn
  obtain ⟨es, ep, tb⟩ := D
  have hkey : (PySem.strKind pr w).is x (.str x t) = true := by show (x == x) = true; simp
  have hel := I.el
  have hmem := I.mem
  have hsz := I.size
  have hf := I.fits
  dsimp only at hel hmem hsz hf
  unfold setAddHashed setAddHashedIn
  refine Goes.holding ?_
  refine Goes.bind (i := 1) (j := 19) (Goes.state (get_push h hs _) hf) ?_
  dsimp only
  rw [byScan_of (knd := PySem.strKind pr w) rfl (by show es.size < 4096; omega) hel]
  simp only [↓reduceIte]
  unfold setAddByScan
  refine Goes.bind (i := 18) (j := 1) (a := some true) ?_ (Goes.mono Goes.pure (Nat.zero_le _))
  refine Goes.bind (i := 1) (j := 17) Goes.rule ?_
  have hnone : es.findIdx? (fun e => e.2.isStr x) = none := by
    rw [Array.findIdx?_eq_none_iff]
    intro e he
    cases q : e.2.isStr x with
    | false => rfl
    | true =>
      have : S x = true := (hmem x).mpr ⟨e, by simpa using he, by
        have q2 : (PySem.strKind pr w).is x e.2 = e.2.isStr x := (PySem.strKind pr w).strs x x t e.2 hkey
        exact q2.trans q⟩
      rw [hx] at this; cases this
  have hscan : setScan 232 (.str x t) (hashStr w x) true es = Pure.pure .absent := by
    unfold setScan
    dsimp only
    have hall : (es.all fun e => isExactStrKey e.2) = true := by
      rw [Array.all_eq_true']
      intro e he
      obtain ⟨⟨k, hk, _⟩, _⟩ := hel e (by simpa using he)
      obtain ⟨u, hu⟩ := Value.isStrOf_shape hk
      rw [hu]; rfl
    rw [if_pos hall]
    unfold setScanStrs
    rw [hnone]
  rw [hscan]
  refine Goes.bind (i := 0) (j := 17) Goes.pure ?_
  dsimp only
  unfold addD at J ⊢
  dsimp only at J ⊢
  have hfits := layNew_fits tb es (hashStr w x) (.str x t)
  have hperm := layNew_perm tb es (hashStr w x) (.str x t)
  generalize layNew tb es (hashStr w x) (.str x t) = L at J hfits hperm ⊢
  obtain ⟨es1, t1, wd, gv⟩ := L
  dsimp only at J hfits hperm ⊢
  rw [Array.toList_push] at hperm
  have hsz1 : es1.size = n + 1 := by rw [← Array.length_toList, hperm.length_eq, List.length_append, Array.length_toList, hsz]; rfl
  have hline : ∀ k : Nat, k = n + 1 → k ≤ sizeLine := fun k hk => by rw [sizeLine_eq]; omega
  have hgw : ∀ (b : Bool) (hh : Heap), Goes w 1 (match b with | true => PySem.rule "set.scan.the-table-gave-way" | false => Pure.pure ()) hh tk p () hh tk p := fun b hh => by
    cases b
    · exact Goes.pure.mono (Nat.zero_le _)
    · exact Goes.rule
  refine Goes.bind (i := 1) (j := 16) (hgw gv _) ?_
  have tail : ∀ t2 : SetTable, Goes w 12 (do
        storeSet 232 es1 t2
        if (!wd && t2.tooFull) = true then do
            (match (relayAll t2 es1 (SetTable.grown es1.size)).2.2 with | true => PySem.rule "set.scan.the-table-gave-way" | false => Pure.pure ())
            storeSet 232 (relayAll t2 es1 (SetTable.grown es1.size)).1 (relayAll t2 es1 (SetTable.grown es1.size)).2.1
            Pure.pure (some true)
          else Pure.pure (some true)) (h.push (setO (es, ep, tb))) tk p (some true)
        (h.push (setO (if (!wd && t2.tooFull) = true then ((relayAll t2 es1 (SetTable.grown es1.size)).1, ep + 1 + 1, (relayAll t2 es1 (SetTable.grown es1.size)).2.1) else (es1, ep + 1, t2)))) tk p := fun t2 => by
    refine Goes.bind (i := 2) (j := 10) (Goes.store hs es1 t2 (hline _ hsz1)) ?_
    split
    · have hp := relayAll_perm t2 es1 (SetTable.grown es1.size)
      refine Goes.bind (i := 1) (j := 9) (hgw _ _) ?_
      refine Goes.bind (i := 2) (j := 7) (Goes.store (D := (es1, ep + 1, t2)) hs _ _ (hline _ ?_)) (Goes.pure.mono (Nat.zero_le _))
      rw [← Array.length_toList, hp.length_eq, Array.length_toList, hsz1]
    · exact Goes.pure.mono (Nat.zero_le _)
  split
  · refine Goes.bind (i := 0) (j := 16) (a := false) Goes.pure ?_
    exact (tail { t1 with plain := false }).mono (by decide)
  · refine Goes.bind (i := 0) (j := 16) (a := true) Goes.pure ?_
    exact (tail t1).mono (by decide)
end
end Mine
end
section
set_option autoImplicit false
set_option maxRecDepth 1000000
set_option linter.all false
namespace Mine
open PySem PySem.W PySem.Calls PyProof.Rows

noncomputable def HashP (x : Str) (w : World) : Prop := ∀ (h : Heap) (tk : Nat) (os : OsState) (t : Tok) (K : Int → Sem Fin) (H : Value → Sem Fin) (gd : Bool → Bool) (lv : List Value → List Value) (p : Pos) (F : Frame) (B : List Frame),
  topGo treeTable pr w 11 nn 7 (sh h tk os) ⟨(pyHash (.str x t)).wrap K H gd lv, cC, p, F :: B⟩ = some (sh h (tk + 1) os, ⟨K (hashStr w x), cC, p, F :: B⟩)
theorem hash_a (w : World) : HashP "a" w := byRow2 "special-get-raises" (P := HashP "a") (fun w h tk os t K H gd lv p F B => by kernel_rfl) (fun w h tk os t K H gd lv p F B => by kernel_rfl) w
theorem hash_e (w : World) : HashP "e" w := byRow2 "special-get-raises" (P := HashP "e") (fun w h tk os t K H gd lv p F B => by kernel_rfl) (fun w h tk os t K H gd lv p F B => by kernel_rfl) w
theorem hash_i (w : World) : HashP "i" w := byRow2 "special-get-raises" (P := HashP "i") (fun w h tk os t K H gd lv p F B => by kernel_rfl) (fun w h tk os t K H gd lv p F B => by kernel_rfl) w
theorem hash_o (w : World) : HashP "o" w := byRow2 "special-get-raises" (P := HashP "o") (fun w h tk os t K H gd lv p F B => by kernel_rfl) (fun w h tk os t K H gd lv p F B => by kernel_rfl) w
theorem hash_u (w : World) : HashP "u" w := byRow2 "special-get-raises" (P := HashP "u") (fun w h tk os t K H gd lv p F B => by kernel_rfl) (fun w h tk os t K H gd lv p F B => by kernel_rfl) w
section
variable {w : World} {h : Heap} {tk : Nat} {p : Pos} {D : SD}
theorem HashP.goes {x : Str} (H : HashP x w) (t : Tok) : Goes w 7 (pyHash (.str x t)) h tk p (hashStr w x) h (tk + 1) p := ⟨7, Nat.le_refl _, fun os K Hh gd lv F B => H h tk os t K Hh gd lv p F B⟩
theorem Goes.setAdd {S : Str → Bool} {n : Nat} {x : Str} (hp : HashP x w) (hs : h.objs.size = 232) (I : SInv w S n D) (t : Tok) (hx : S x = false) (hn : n < 100) :
    Goes w 27 (PySem.setAdd 232 (.str x t)) (h.push (setO D)) tk p true (h.push (setO (addD (hashStr w x) (.str x t) D))) (tk + 1) p := by
  unfold PySem.setAdd
  exact Goes.holding (Goes.bind (i := 7) (j := 20) (hp.goes t) (Goes.add hs I x t hx hn))
theorem Goes.at {q : Pos} : Goes w 1 (standAt q) h tk p () h tk q := ⟨1, Nat.le_refl _, fun os K H gd lv F B => rfl⟩
theorem Goes.newSet (hs : h.objs.size = 232) : Goes w 2 (PySem.newSet (.type "set")) h tk p (.ref 232) (h.push (setO (#[], 0, .fresh 0 0 (!w.params.followText "set-order")))) tk p := by
  refine ⟨2, Nat.le_refl _, fun os K H gd lv F B => ?_⟩
  show some (sh _ tk os, (⟨K (.ref h.objs.size), cC, p, F :: B⟩ : Thread)) = _
  rw [hs]
  rfl
noncomputable def S0 : Str → Bool := fun _ => false
noncomputable def S1 : Str → Bool := fun k => S0 k || decide (k = "a")
noncomputable def S2 : Str → Bool := fun k => S1 k || decide (k = "e")
noncomputable def S3 : Str → Bool := fun k => S2 k || decide (k = "i")
noncomputable def S4 : Str → Bool := fun k => S3 k || decide (k = "o")
noncomputable def S5 : Str → Bool := fun k => S4 k || decide (k = "u")
theorem I0 : SInv w S0 0 (D0 w) := ⟨fun e he => by simp [D0] at he, fun k => by simp [D0, S0], rfl, rfl⟩
theorem I1 : SInv w S1 1 (D1 w) := addD_inv I0 "a" 487 rfl (by decide)
theorem I2 : SInv w S2 2 (D2 w) := addD_inv I1 "e" 488 (by decide) (by decide)
theorem I3 : SInv w S3 3 (D3 w) := addD_inv I2 "i" 489 (by decide) (by decide)
theorem I4 : SInv w S4 4 (D4 w) := addD_inv I3 "o" 490 (by decide) (by decide)
theorem I5 : SInv w S5 5 (D5 w) := addD_inv I4 "u" 491 (by decide) (by decide)
theorem Goes.unled {S : Str → Bool} {n : Nat} (hs : h.objs.size = 232) (I : SInv w S n D) (hn : n < 100) : Goes w 4 (setUnled 232) (h.push (setO D)) tk p () (h.push (setO (D.1, D.2.1 + 1, { D.2.2 with led := false }))) tk p := by
  obtain ⟨es, ep, t⟩ := D
  unfold setUnled
  refine Goes.bind (i := 1) (j := 3) (Goes.state (get_push h hs _) I.fits) ?_
  have hz : es.size ≤ sizeLine := by
    have := I.size
    dsimp only at this
    rw [this, sizeLine_eq]; omega
  exact (Goes.store (D := (es, ep, t)) hs es { t with led := false } hz).mono (by decide)
theorem s1 (hs : h.objs.size = 232) : Goes w 27 (PySem.setAdd 232 (.str "a" 487)) (h.push (setO (D0 w))) tk p true (h.push (setO (D1 w))) (tk + 1) p := by
  have := Goes.setAdd (tk := tk) (p := p) (hash_a w) hs I0 487 (by decide) (by decide)
  rwa [show addD (hashStr w "a") (.str "a" 487) (D0 w) = D1 w from rfl] at this
theorem s2 (hs : h.objs.size = 232) : Goes w 27 (PySem.setAdd 232 (.str "e" 488)) (h.push (setO (D1 w))) tk p true (h.push (setO (D2 w))) (tk + 1) p := by
  have := Goes.setAdd (tk := tk) (p := p) (hash_e w) hs I1 488 (by decide) (by decide)
  rwa [show addD (hashStr w "e") (.str "e" 488) (D1 w) = D2 w from rfl] at this
theorem s3 (hs : h.objs.size = 232) : Goes w 27 (PySem.setAdd 232 (.str "i" 489)) (h.push (setO (D2 w))) tk p true (h.push (setO (D3 w))) (tk + 1) p := by
  have := Goes.setAdd (tk := tk) (p := p) (hash_i w) hs I2 489 (by decide) (by decide)
  rwa [show addD (hashStr w "i") (.str "i" 489) (D2 w) = D3 w from rfl] at this
theorem s4 (hs : h.objs.size = 232) : Goes w 27 (PySem.setAdd 232 (.str "o" 490)) (h.push (setO (D3 w))) tk p true (h.push (setO (D4 w))) (tk + 1) p := by
  have := Goes.setAdd (tk := tk) (p := p) (hash_o w) hs I3 490 (by decide) (by decide)
  rwa [show addD (hashStr w "o") (.str "o" 490) (D3 w) = D4 w from rfl] at this
theorem s5 (hs : h.objs.size = 232) : Goes w 27 (PySem.setAdd 232 (.str "u" 491)) (h.push (setO (D4 w))) tk p true (h.push (setO (D5 w))) (tk + 1) p := by
  have := Goes.setAdd (tk := tk) (p := p) (hash_u w) hs I4 491 (by decide) (by decide)
  rwa [show addD (hashStr w "u") (.str "u" 491) (D4 w) = D5 w from rfl] at this
theorem adds_ {E0 E1 E2 E3 E4 E5 : SD}
    (a1 : ∀ (tk : Nat) (p : Pos), Goes w 27 (PySem.setAdd 232 (.str "a" 487)) (h.push (setO E0)) tk p true (h.push (setO E1)) (tk + 1) p)
    (a2 : ∀ (tk : Nat) (p : Pos), Goes w 27 (PySem.setAdd 232 (.str "e" 488)) (h.push (setO E1)) tk p true (h.push (setO E2)) (tk + 1) p)
    (a3 : ∀ (tk : Nat) (p : Pos), Goes w 27 (PySem.setAdd 232 (.str "i" 489)) (h.push (setO E2)) tk p true (h.push (setO E3)) (tk + 1) p)
    (a4 : ∀ (tk : Nat) (p : Pos), Goes w 27 (PySem.setAdd 232 (.str "o" 490)) (h.push (setO E3)) tk p true (h.push (setO E4)) (tk + 1) p)
    (a5 : ∀ (tk : Nat) (p : Pos), Goes w 27 (PySem.setAdd 232 (.str "u" 491)) (h.push (setO E4)) tk p true (h.push (setO E5)) (tk + 1) p) :
    Goes w 135 (forIn [Value.str "a" 487, .str "e" 488, .str "i" 489, .str "o" 490, .str "u" 491] () (fun x _ => do let _ ← PySem.setAdd 232 x; Pure.pure (ForInStep.yield ()) : Value → Unit → Sem (ForInStep Unit))) (h.push (setO E0)) tk p () (h.push (setO E5)) (tk + 5) p := by
  simp only [List.forIn_cons, List.forIn_nil]
  refine Goes.bind (i := 27) (j := 108) (a := .yield ()) (Goes.bind (i := 27) (j := 0) (a1 _ _) Goes.pure) ?_
  refine Goes.bind (i := 27) (j := 81) (a := .yield ()) (Goes.bind (i := 27) (j := 0) (a2 _ _) Goes.pure) ?_
  refine Goes.bind (i := 27) (j := 54) (a := .yield ()) (Goes.bind (i := 27) (j := 0) (a3 _ _) Goes.pure) ?_
  refine Goes.bind (i := 27) (j := 27) (a := .yield ()) (Goes.bind (i := 27) (j := 0) (a4 _ _) Goes.pure) ?_
  refine Goes.bind (i := 27) (j := 0) (a := .yield ()) (Goes.bind (i := 27) (j := 0) (a5 _ _) Goes.pure) ?_
  exact Goes.pure
theorem adds (hs : h.objs.size = 232) : Goes w 135 (forIn [Value.str "a" 487, .str "e" 488, .str "i" 489, .str "o" 490, .str "u" 491] () (fun x _ => do let _ ← PySem.setAdd 232 x; Pure.pure (ForInStep.yield ()) : Value → Unit → Sem (ForInStep Unit))) (h.push (setO (D0 w))) tk p () (h.push (setO (D5 w))) (tk + 5) p :=
  adds_ (fun _ _ => s1 hs) (fun _ _ => s2 hs) (fun _ _ => s3 hs) (fun _ _ => s4 hs) (fun _ _ => s5 hs)
end
end Mine
end
section
set_option autoImplicit false
set_option maxRecDepth 1000000
set_option linter.all false
namespace Mine
open PySem PySem.W PySem.Calls PyProof.Rows

noncomputable def asgQ : Stmt → Pos × Pos × List Expr × Pos
  | .Assign [.Name _ q1] (.Set els _ q2) q3 => (q1, q2, els, q3)
  | _ => (default, default, [], default)
noncomputable def sg : Pos × Pos × List Expr × Pos := asgQ (stN cB 0)
theorem st0_eq : stN cB 0 = .Assign [.Name "g_vowel" sg.1] (.Set sg.2.2.1 0 sg.2.1) sg.2.2.2 := by kernel_rfl
noncomputable def hO (p : Params) : Heap := absHeap (tre 12 (Lo p)) 232 {}
noncomputable def hP (p : Params) : Heap := absHeap (tre 12 (Lp p)) 233 {}
theorem absO (w : World) (os : OsState) : (S Lo 232 487 w os).abs = sh (hO w.params) 487 os := rfl
theorem absP (w : World) (os : OsState) : (S Lp 233 498 w os).abs = sh (hP w.params) 498 os := rfl
theorem sizeO (p : Params) : (hO p).objs.size = 232 := by kernel_rfl
theorem road_eq : displayRoad 0 sg.2.2.1 = .unsure := by kernel_rfl
theorem len_eq : sg.2.2.1.length = 5 := by kernel_rfl
noncomputable abbrev eltsT : List (Bool × Sem Value) := (starEach sg.2.2.1 cEnv).map fun (star, t) => (star, do let v ← t; standAt sg.2.1; pure v)
theorem elts_len : eltsT.length = 5 := by kernel_rfl
theorem elts_idx : (if eltsT.length > 30 then 0 else (eltsT.findIdx? (·.1)).getD eltsT.length) = 5 := by kernel_rfl
theorem elts_drop : eltsT.drop 5 = [] := by kernel_rfl
section
variable {w : World}
theorem goMain : Goes w 5 (inMainModule cEnv) (hO w.params) 487 sg.2.1 true (hO w.params) 487 sg.2.1 := ⟨2, by decide, fun os K H gd lv F B => by kernel_rfl⟩
theorem goFirst (h : Heap) : Goes w 10 (evalAll ((eltsT.take 5).map (·.2))) h 487 sg.2.1 [Value.str "a" 487, .str "e" 488, .str "i" 489, .str "o" 490, .str "u" 491] h 492 sg.2.1 := ⟨10, by decide, fun os K H gd lv F B => by kernel_rfl⟩
theorem goDisp : Goes w 200 (setDisplay (displayRoad 0 sg.2.2.1) true eltsT) (hO w.params) 487 sg.2.1 (.ref 232) ((hO w.params).push (setO (D6 w))) 497 sg.2.1 := by
  unfold setDisplay
  rw [road_eq, if_neg (by decide)]
  refine Goes.bind (i := 2) (j := 198) (Goes.newSet (sizeO _)) ?_
  dsimp only
  rw [elts_idx, elts_drop]
  refine Goes.bind (i := 198) (j := 0) (a := ()) (h1 := (hO w.params).push (setO (D6 w))) (tk1 := 497) (p1 := sg.2.1) (Goes.holding ?_) Goes.pure
  refine Goes.bind (i := 10) (j := 188) (goFirst _) ?_
  refine Goes.bind (i := 188) (j := 0) (a := ()) (h1 := (hO w.params).push (setO (D6 w))) (tk1 := 497) (p1 := sg.2.1) (Goes.holding ?_) Goes.pure
  refine Goes.bind (i := 135) (j := 53) (a := ()) (h1 := (hO w.params).push (setO (D5 w))) (tk1 := 497) (p1 := sg.2.1) (adds (sizeO _)) ?_
  rw [if_pos (by decide)]
  refine Goes.bind (i := 1) (j := 52) (a := ()) Goes.rule ?_
  exact (Goes.unled (sizeO _) I5 (by decide)).mono (by decide)
theorem goVal : Goes w 210 (eval (.Set sg.2.2.1 0 sg.2.1) cEnv) (hO w.params) 487 sg.2.2.2 (.ref 232) ((hO w.params).push (setO (D6 w))) 497 sg.2.1 := by
  show Goes w 210 (do
    standAt sg.2.1
    setDisplay (displayRoad 0 sg.2.2.1) (← inMainModule cEnv) eltsT) _ _ _ _ _ _ _
  exact Goes.bind (i := 1) (j := 209) (a := ()) Goes.at (Goes.bind (i := 5) (j := 204) (a := true) goMain (goDisp.mono (by decide)))
theorem goStore : Goes w 30 (do
    standAt sg.1
    bindName cEnv "g_vowel" (.ref 232)
    Pure.pure Flow.next) ((hO w.params).push (o232 w.params)) 497 sg.2.1 .next (hP w.params) 498 sg.1 := ⟨8, by decide, fun os K H gd lv F B => by kernel_rfl⟩
theorem pp_eq : sg.1 = p_p := by kernel_rfl
theorem goSt : Goes w 241 (exec (stN cB 0) cEnv) (hO w.params) 487 p_o .next (hP w.params) 498 p_p := by
  rw [st0_eq, exec_Assign_Name _ _ _ _ _ rfl, ← pp_eq]
  refine Goes.bind (i := 1) (j := 240) (a := ()) Goes.at ?_
  refine Goes.bind (i := 210) (j := 30) goVal ?_
  rw [o232_eq]
  exact goStore
end
end Mine
end
section
set_option autoImplicit false
set_option maxRecDepth 1000000
set_option linter.all false
namespace Mine
open PySem PySem.W PySem.Calls PyProof.Rows
theorem c_q (w : World) (os : OsState) : segRunT treeTable pr w 11 nn 2 225 (S Lp 233 498 w os) (piecesOf [stN cB 1, stN cB 2, stN cB 3, stN cB 4, stN cB 5, stN cB 6, stN cB 7, stN cB 8] cEnv cC p_p (BB w os)) = some (.next, S Lq 275 568 w os, cC, p_q) := by
  rw [Fast.te10110043849684766642]; kernel_rfl
end Mine
end
section
set_option autoImplicit false
set_option maxRecDepth 1000000
set_option linter.all false
namespace Mine
open PySem PySem.W PySem.Calls PyProof.Rows
theorem c_r_ (w : World) : (fun os => segRunT treeTable pr w 11 nn 2 522 (S Lq 275 568 w os) (piecesOf [stN cB 9] cEnv cC p_q (BB w os))) = fun os => some (.next, S Lr 285 611 w os, cC, p_r) :=
  byRow2 "special-get-raises" (P := fun w => (fun os => segRunT treeTable pr w 11 nn 2 522 (S Lq 275 568 w os) (piecesOf [stN cB 9] cEnv cC p_q (BB w os))) = fun os => some (.next, S Lr 285 611 w os, cC, p_r)) (fun w => by rw [Fast.te10110043849684766642]; kernel_rfl) (fun w => by rw [Fast.te10110043849684766642]; kernel_rfl) w
theorem c_r (w : World) (os : OsState) : segRunT treeTable pr w 11 nn 2 522 (S Lq 275 568 w os) (piecesOf [stN cB 9] cEnv cC p_q (BB w os)) = some (.next, S Lr 285 611 w os, cC, p_r) := congrFun (c_r_ w) os
end Mine
end
section
set_option autoImplicit false
set_option maxRecDepth 1000000
set_option linter.all false
namespace Mine
open PySem PySem.W PySem.Calls PyProof.Rows
theorem c_s_ (w : World) : (fun os => segRunT treeTable pr w 11 nn 2 522 (S Lr 285 611 w os) (piecesOf [stN cB 10] cEnv cC p_r (BB w os))) = fun os => some (.next, S Ls 295 654 w os, cC, p_s) :=
  byRow2 "special-get-raises" (P := fun w => (fun os => segRunT treeTable pr w 11 nn 2 522 (S Lr 285 611 w os) (piecesOf [stN cB 10] cEnv cC p_r (BB w os))) = fun os => some (.next, S Ls 295 654 w os, cC, p_s)) (fun w => by rw [Fast.te10110043849684766642]; kernel_rfl) (fun w => by rw [Fast.te10110043849684766642]; kernel_rfl) w
theorem c_s (w : World) (os : OsState) : segRunT treeTable pr w 11 nn 2 522 (S Lr 285 611 w os) (piecesOf [stN cB 10] cEnv cC p_r (BB w os)) = some (.next, S Ls 295 654 w os, cC, p_s) := congrFun (c_s_ w) os
end Mine
end
section
set_option autoImplicit false
set_option maxRecDepth 1000000
set_option linter.all false
namespace Mine
open PySem PySem.W PySem.Calls PyProof.Rows
theorem c_t_ (w : World) : (fun os => segRunT treeTable pr w 11 nn 2 352 (S Ls 295 654 w os) (piecesOf [stN cB 11] cEnv cC p_s (BB w os))) = fun os => some (.next, S Lt 302 683 w os, cC, p_t) :=
  byRow2 "special-get-raises" (P := fun w => (fun os => segRunT treeTable pr w 11 nn 2 352 (S Ls 295 654 w os) (piecesOf [stN cB 11] cEnv cC p_s (BB w os))) = fun os => some (.next, S Lt 302 683 w os, cC, p_t)) (fun w => by rw [Fast.te10110043849684766642]; kernel_rfl) (fun w => by rw [Fast.te10110043849684766642]; kernel_rfl) w
theorem c_t (w : World) (os : OsState) : segRunT treeTable pr w 11 nn 2 352 (S Ls 295 654 w os) (piecesOf [stN cB 11] cEnv cC p_s (BB w os)) = some (.next, S Lt 302 683 w os, cC, p_t) := congrFun (c_t_ w) os
end Mine
end
section
set_option autoImplicit false
set_option maxRecDepth 1000000
set_option linter.all false
namespace Mine
open PySem PySem.W PySem.Calls PyProof.Rows
theorem c_u_ (w : World) : (fun os => segRunT treeTable pr w 11 nn 2 1692 (S Lt 302 683 w os) (piecesOf [stN cB 12] cEnv cC p_t (BB w os))) = fun os => some (.next, S Lu 333 820 w os, cC, p_u) :=
  byRow2 "special-get-raises" (P := fun w => (fun os => segRunT treeTable pr w 11 nn 2 1692 (S Lt 302 683 w os) (piecesOf [stN cB 12] cEnv cC p_t (BB w os))) = fun os => some (.next, S Lu 333 820 w os, cC, p_u)) (fun w => by rw [Fast.te10110043849684766642]; kernel_rfl) (fun w => by rw [Fast.te10110043849684766642]; kernel_rfl) w
theorem c_u (w : World) (os : OsState) : segRunT treeTable pr w 11 nn 2 1692 (S Lt 302 683 w os) (piecesOf [stN cB 12] cEnv cC p_t (BB w os)) = some (.next, S Lu 333 820 w os, cC, p_u) := congrFun (c_u_ w) os
end Mine
end
section
set_option autoImplicit false
set_option maxRecDepth 1000000
set_option linter.all false
namespace Mine
open PySem PySem.W PySem.Calls PyProof.Rows
theorem c_v_ (w : World) : (fun os => segRunT treeTable pr w 11 nn 2 352 (S Lu 333 820 w os) (piecesOf [stN cB 13] cEnv cC p_u (BB w os))) = fun os => some (.next, S Lv 340 849 w os, cC, p_v) :=
  byRow2 "special-get-raises" (P := fun w => (fun os => segRunT treeTable pr w 11 nn 2 352 (S Lu 333 820 w os) (piecesOf [stN cB 13] cEnv cC p_u (BB w os))) = fun os => some (.next, S Lv 340 849 w os, cC, p_v)) (fun w => by rw [Fast.te10110043849684766642]; kernel_rfl) (fun w => by rw [Fast.te10110043849684766642]; kernel_rfl) w
theorem c_v (w : World) (os : OsState) : segRunT treeTable pr w 11 nn 2 352 (S Lu 333 820 w os) (piecesOf [stN cB 13] cEnv cC p_u (BB w os)) = some (.next, S Lv 340 849 w os, cC, p_v) := congrFun (c_v_ w) os
end Mine
end
section
set_option autoImplicit false
set_option maxRecDepth 1000000
set_option linter.all false
namespace Mine
open PySem PySem.W PySem.Calls PyProof.Rows
theorem c_out_ (w : World) : (fun os => segGoT treeTable pr w 11 nn 1000 166 (S Lv 340 849 w os) ⟨doneF .next, cC, p_v, BB w os⟩) = fun os => some (S Le 345 859 w os, restOf restE tEnv cE p_e [topFrame p0]) :=
  byRow2 "special-get-raises" (P := fun w => (fun os => segGoT treeTable pr w 11 nn 1000 166 (S Lv 340 849 w os) ⟨doneF .next, cC, p_v, BB w os⟩) = fun os => some (S Le 345 859 w os, restOf restE tEnv cE p_e [topFrame p0])) (fun w => by kernel_rfl) (fun w => by kernel_rfl) w
theorem c_out (w : World) (os : OsState) : segGoT treeTable pr w 11 nn 1000 166 (S Lv 340 849 w os) ⟨doneF .next, cC, p_v, BB w os⟩ = some (S Le 345 859 w os, restOf restE tEnv cE p_e [topFrame p0]) := congrFun (c_out_ w) os
end Mine
end
section
set_option autoImplicit false
set_option maxRecDepth 1000000
set_option linter.all false
namespace Mine
open PySem PySem.W PySem.Calls PyProof.Rows
theorem g_f (w : World) (os : OsState) : segRunT treeTable pr w 11 nn 1 393 (S Le 345 859 w os) (piecesOf [topSt 7, topSt 8] tEnv cE p_e [topFrame p0]) = some (.next, S Lf 371 899 w os, cE, p_f) := by
  rw [Fast.te10110043849684766642]; kernel_rfl
theorem g_g (w : World) (os : OsState) : segRunT treeTable pr w 11 nn 1 134 (S Lf 371 899 w os) (piecesOf [topSt 9, topSt 10, topSt 11, topSt 12, topSt 13] tEnv cE p_f [topFrame p0]) = some (.next, S Lg 381 976 w os, cE, p_g) := by
  rw [Fast.te10110043849684766642]; kernel_rfl
theorem g_h (w : World) (os : OsState) : segRunT treeTable pr w 11 nn 1 129 (S Lg 381 976 w os) (piecesOf [topSt 14, topSt 15, topSt 16, topSt 17, topSt 18] tEnv cE p_g [topFrame p0]) = some (.next, S Lh 410 1008 w os, cE, p_h) := by
  rw [Fast.te10110043849684766642]; kernel_rfl
theorem g_i_ (w : World) : (fun os => segRunT treeTable pr w 11 nn 1 143 (S Lh 410 1008 w os) (piecesOf [topSt 19] tEnv cE p_h [topFrame p0])) = fun os => some (.next, S Li 429 1045 w os, cE, p_i) :=
  byRow2 "special-get-raises" (P := fun w => (fun os => segRunT treeTable pr w 11 nn 1 143 (S Lh 410 1008 w os) (piecesOf [topSt 19] tEnv cE p_h [topFrame p0])) = fun os => some (.next, S Li 429 1045 w os, cE, p_i)) (fun w => by rw [Fast.te10110043849684766642]; kernel_rfl) (fun w => by rw [Fast.te10110043849684766642]; kernel_rfl) w
theorem g_i (w : World) (os : OsState) : segRunT treeTable pr w 11 nn 1 143 (S Lh 410 1008 w os) (piecesOf [topSt 19] tEnv cE p_h [topFrame p0]) = some (.next, S Li 429 1045 w os, cE, p_i) := congrFun (g_i_ w) os
theorem g_j (w : World) (os : OsState) : segRunT treeTable pr w 11 nn 1 189 (S Li 429 1045 w os) (piecesOf [topSt 20, topSt 21, topSt 22, topSt 23, topSt 24, topSt 25] tEnv cE p_i [topFrame p0]) = some (.next, S Lj 467 1105 w os, cE, p_j) := by
  rw [Fast.te10110043849684766642]; kernel_rfl
end Mine
end
section
set_option autoImplicit false
set_option maxRecDepth 1000000
set_option linter.all false
namespace Mine
open PySem PySem.W PySem.Calls PyProof.Rows

section
variable {tb : String → Option Builtin} {p : Program} {w : World} {n₀ : Nat} {ann : Option Value} {env : Env}
theorem pieceB_app {B : List Frame} (hB : splitAtGen B = none) {n N : Nat} {s s' r : Shared} {l rest : List Stmt} {c : Code} {pos p' : Pos} (h : segRun tb p w n₀ ann B.length n s (piecesOf l env c pos B) = some (.next, s', c, p'))
    (k : topRun tb p w n₀ ann N s' (restOf rest env c p' B) = some r) : topRun tb p w n₀ ann (n + N) s (restOf (l ++ rest) env c pos B) = some r := by
  obtain ⟨a, ha, hN⟩ := seg_top (res := id) (K' := fun f => match f with | .next => (execs rest env).wrap doneF (leaveH env) id id | f => doneF f) (H' := leaveH env) (B := B) hB n s (piecesOf l env c pos B)
    ⟨(execs l env).wrap (fun f => match f with | .next => (execs rest env).wrap doneF (leaveH env) id id | f => doneF f) (leaveH env) id id, c, pos, B⟩ _ _ _ _ ⟨rfl, rfl, .inl ⟨rfl, rfl, _, rfl, rfl⟩⟩ h
  obtain rfl : a = .next := ha
  have := hN N r k
  unfold restOf
  rw [execs_app_wrap]
  exact this
theorem pieceB_block {B : List Frame} (hB : splitAtGen B = none) {n N : Nat} {s s' r : Shared} {b : List Stmt} {c : Code} {pos p' : Pos} (h : segRun tb p w n₀ ann B.length n s (blockOf b env c pos B) = some (.next, s', c, p'))
    (k : topRun tb p w n₀ ann N s' (restOf b env c p' B) = some r) : topRun tb p w n₀ ann (n + N) s ⟨denote tb (.body b env), c, pos, B⟩ = some r := by
  obtain ⟨a, ha, hN⟩ := seg_top (res := fun _ : Unit => Flow.next) (K' := fun _ => (execs b env).wrap doneF (leaveH env) id id) (H' := Sem.raise) (B := B) hB n s (blockOf b env c pos B)
    ⟨(blockStart b env).wrap (fun _ => (execs b env).wrap doneF (leaveH env) id id) .raise id id, c, pos, B⟩ _ _ _ _ ⟨rfl, rfl, .inl ⟨rfl, rfl, _, rfl, rfl⟩⟩ h
  rw [body_wrap]
  exact hN N r k
theorem through_halts {s : Shared} {t : Thread} (h : through t = true) {s' : Shared} {t' : Thread} : step (denote tb) p w s t ≠ .go s' t' := by
  obtain ⟨cur, c, q, st⟩ := t
  obtain ⟨a, b, d, e, f⟩ := s
  unfold through at h
  rw [Bool.and_eq_true] at h
  obtain ⟨h1, h2⟩ := h
  cases st with
  | cons _ _ => cases h1
  | nil =>
    cases cur with
    | pure x =>
      cases x with
      | done f =>
        show PySem.finish _ _ ≠ _
        unfold PySem.finish
        intro h
        repeat' split at h
        all_goals cases h
      | again _ => cases h2
    | _ => cases h2
theorem go_of_seg {b : Nat} : ∀ {n : Nat} {s s' : Shared} {t t' : Thread}, segGo tb p w n₀ ann b n s t = some (s', t') → topGo tb p w n₀ ann n s t = some (s', t')
  | 0, _, _, _, _, h => h
  | n + 1, s, s', t, t', h => by
    unfold segGo at h
    unfold topGo
    cases he : endAt b t with
    | some f => rw [he] at h; cases h
    | none =>
      rw [he] at h
      cases hk : stepOk n₀ ann t with
      | false => rw [hk] at h; cases h
      | true =>
        rw [hk] at h
        cases hs : step (denote tb) p w s t with
        | halt o s₂ => rw [hs] at h; cases h
        | go s₂ t₂ =>
          rw [hs] at h
          cases ht : through t with
          | true => exact absurd hs (through_halts ht)
          | false => exact go_of_seg h
end
noncomputable def H1 (p : Params) : Heap := ⟨⟨Lj p⟩, {}⟩
noncomputable def KK (p : Params) : Frag := [(0, o0_0 p), (1, o1_0 p), (2, o2_1 p), (3, o3_9 p), (4, o4_0 p), (5, o5_0 p), (6, o6_0 p), (7, o7_0 p), (8, o8_0 p), (9, o9_0 p), (10, o10_0 p), (11, o11_0 p), (12, o12_8 p), (13, o13_0 p), (14, o14_0 p), (15, o15_0 p), (16, o16_0 p), (17, o17_0 p), (18, o18_0 p), (19, o19_0 p), (20, o20_0 p), (21, o21_0 p), (22, o22_0 p), (23, o23_0 p), (24, o24_0 p), (25, o25_0 p), (26, o26_0 p), (27, o27_0 p), (28, o28_0 p), (29, o29_0 p), (30, o30_0 p), (31, o31_0 p), (32, o32_0 p), (33, o33_0 p), (34, o34_0 p), (35, o35_0 p), (36, o36_0 p), (37, o37_0 p), (38, o38_0 p), (39, o39_0 p), (40, o40_0 p), (41, o41_0 p), (42, o42_0 p), (43, o43_0 p), (44, o44_0 p), (45, o45_0 p), (46, o46_0 p), (47, o47_0 p), (48, o48_0 p), (49, o49_0 p), (50, o50_0 p), (51, o51_0 p), (52, o52_0 p), (53, o53_0 p), (54, o54_0 p), (55, o55_0 p), (56, o56_0 p), (57, o57_0 p), (58, o58_0 p), (59, o59_0 p), (60, o60_0 p), (61, o61_0 p), (62, o62_0 p), (63, o63_0 p), (64, o64_0 p), (65, o65_0 p), (66, o66_0 p), (67, o67_0 p), (68, o68_0 p), (69, o69_0 p), (70, o70_0 p), (71, o71_0 p), (72, o72_0 p), (73, o73_0 p), (74, o74_0 p), (75, o75_0 p), (76, o76_0 p), (77, o77_0 p), (78, o78_0 p), (79, o79_0 p), (80, o80_0 p), (81, o81_0 p), (82, o82_0 p), (83, o83_0 p), (84, o84_0 p), (85, o85_0 p), (86, o86_0 p), (87, o87_0 p), (88, o88_0 p), (89, o89_0 p), (90, o90_0 p), (91, o91_0 p), (92, o92_0 p), (93, o93_0 p), (94, o94_0 p), (95, o95_0 p), (96, o96_0 p), (97, o97_0 p), (98, o98_0 p), (99, o99_0 p), (100, o100_0 p), (101, o101_0 p), (102, o102_0 p), (103, o103_0 p), (104, o104_0 p), (105, o105_0 p), (106, o106_0 p), (107, o107_0 p), (108, o108_0 p), (109, o109_0 p), (110, o110_0 p), (111, o111_0 p), (112, o112_0 p), (113, o113_0 p), (114, o114_0 p), (115, o115_0 p), (116, o116_0 p), (117, o117_0 p), (118, o118_0 p), (119, o119_0 p), (120, o120_0 p), (121, o121_0 p), (122, o122_0 p), (123, o123_0 p), (124, o124_0 p), (125, o125_0 p), (126, o126_0 p), (127, o127_0 p), (128, o128_0 p), (129, o129_0 p), (130, o130_0 p), (131, o131_0 p), (132, o132_0 p), (133, o133_0 p), (134, o134_0 p), (135, o135_0 p), (136, o136_0 p), (137, o137_0 p), (138, o138_0 p), (139, o139_0 p), (140, o140_0 p), (141, o141_0 p), (142, o142_0 p), (143, o143_0 p), (144, o144_0 p), (145, o145_0 p), (146, o146_0 p), (147, o147_0 p), (148, o148_0 p), (149, o149_0 p), (150, o150_0 p), (151, o151_0 p), (152, o152_0 p), (153, o153_0 p), (154, o154_0 p), (155, o155_0 p), (156, o156_0 p), (157, o157_0 p), (158, o158_0 p), (159, o159_0 p), (160, o160_0 p), (161, o161_0 p), (162, o162_0 p), (163, o163_0 p), (164, o164_0 p), (165, o165_0 p), (166, o166_0 p), (167, o167_0 p), (168, o168_0 p), (169, o169_0 p), (170, o170_0 p), (171, o171_0 p), (172, o172_0 p), (173, o173_0 p), (174, o174_0 p), (175, o175_0 p), (176, o176_0 p), (177, o177_0 p), (178, o178_0 p), (179, o179_0 p), (180, o180_0 p), (181, o181_0 p), (182, o182_0 p), (183, o183_0 p), (184, o184_0 p), (185, o185_0 p), (186, o186_0 p), (187, o187_0 p), (188, o188_0 p), (189, o189_0 p), (190, o190_0 p), (191, o191_0 p), (192, o192_0 p), (193, o193_0 p), (194, o194_0 p), (195, o195_0 p), (196, o196_0 p), (197, o197_0 p), (198, o198_0 p), (199, o199_1 p), (200, o200_0 p), (201, o201_0 p), (202, o202_0 p), (203, o203_0 p), (204, o204_0 p), (205, o205_0 p), (206, o206_0 p), (207, o207_0 p), (208, o208_0 p), (209, o209_0 p), (210, o210_0 p), (211, o211_0 p), (212, o212_0 p), (213, o213_0 p), (214, o214_0 p), (215, o215_0 p), (216, o216_0 p), (217, o217_0 p), (218, o218_0 p), (219, o219_0 p), (220, o220_0 p), (221, o221_0 p), (222, o222_0 p), (223, o223_0 p), (224, o224_0 p), (225, o225_0 p), (226, o226_0 p), (227, o227_8 p), (228, o228_0 p), (229, o229_1 p), (230, o230_0 p), (231, o231_0 p), (232, o232 p), (233, o233_0 p), (234, o234_0 p), (235, o235_0 p), (236, o236_0 p), (237, o237_0 p), (238, o238_0 p), (239, o239_0 p), (240, o240_0 p), (241, o241_0 p), (242, o242_0 p), (243, o243_0 p), (244, o244_0 p), (245, o245_0 p), (246, o246_0 p), (247, o247_0 p), (248, o248_0 p), (249, o249_0 p), (250, o250_0 p), (251, o251_0 p), (252, o252_0 p), (253, o253_0 p), (254, o254_0 p), (255, o255_0 p), (256, o256_0 p), (257, o257_0 p), (258, o258_0 p), (259, o259_0 p), (260, o260_0 p), (261, o261_0 p), (262, o262_0 p), (263, o263_0 p), (264, o264_0 p), (265, o265_0 p), (266, o266_0 p), (267, o267_0 p), (268, o268_0 p), (269, o269_0 p), (270, o270_0 p), (271, o271_0 p), (272, o272_0 p), (273, o273_0 p), (274, o274_0 p), (275, o275_0 p), (276, o276_0 p), (277, o277_0 p), (278, o278_0 p), (279, o279_0 p), (280, o280_0 p), (281, o281_0 p), (282, o282_0 p), (283, o283_0 p), (284, o284_0 p), (285, o285_0 p), (286, o286_0 p), (287, o287_0 p), (288, o288_0 p), (289, o289_0 p), (290, o290_0 p), (291, o291_0 p), (292, o292_0 p), (293, o293_0 p), (294, o294_0 p), (295, o295_0 p), (296, o296_0 p), (297, o297_0 p), (298, o298_0 p), (299, o299_0 p), (300, o300_0 p), (301, o301_0 p), (302, o302_0 p), (303, o303_0 p), (304, o304_0 p), (305, o305_0 p), (306, o306_0 p), (307, o307_0 p), (308, o308_0 p), (309, o309_0 p), (310, o310_0 p), (311, o311_0 p), (312, o312_0 p), (313, o313_0 p), (314, o314_0 p), (315, o315_0 p), (316, o316_0 p), (317, o317_0 p), (318, o318_0 p), (319, o319_0 p), (320, o320_0 p), (321, o321_0 p), (322, o322_0 p), (323, o323_0 p), (324, o324_0 p), (325, o325_0 p), (326, o326_0 p), (327, o327_0 p), (328, o328_0 p), (329, o329_0 p), (330, o330_0 p), (331, o331_0 p), (332, o332_0 p), (333, o333_0 p), (334, o334_0 p), (335, o335_0 p), (336, o336_0 p), (337, o337_0 p), (338, o338_0 p), (339, o339_0 p), (340, o340_0 p), (341, o341_0 p), (342, o342_0 p), (343, o343_0 p), (344, o344_0 p), (345, o345_0 p), (346, o346_0 p), (347, o347_0 p), (348, o348_0 p), (349, o349_0 p), (350, o350_0 p), (351, o351_0 p), (352, o352_0 p), (353, o353_0 p), (354, o354_0 p), (355, o355_0 p), (356, o356_0 p), (357, o357_0 p), (358, o358_0 p), (359, o359_0 p), (360, o360_0 p), (361, o361_0 p), (362, o362_0 p), (363, o363_0 p), (364, o364_0 p), (365, o365_0 p), (366, o366_0 p), (367, o367_0 p), (368, o368_0 p), (369, o369_0 p), (370, o370_0 p), (371, o371_0 p), (372, o372_0 p), (373, o373_0 p), (374, o374_0 p), (375, o375_0 p), (376, o376_0 p), (377, o377_0 p), (378, o378_0 p), (379, o379_0 p), (380, o380_0 p), (381, o381_0 p), (382, o382_0 p), (383, o383_0 p), (384, o384_0 p), (385, o385_0 p), (386, o386_0 p), (387, o387_0 p), (388, o388_0 p), (389, o389_0 p), (390, o390_0 p), (391, o391_0 p), (392, o392_0 p), (393, o393_0 p), (394, o394_0 p), (395, o395_0 p), (396, o396_0 p), (397, o397_0 p), (398, o398_0 p), (399, o399_0 p), (400, o400_0 p), (401, o401_0 p), (402, o402_0 p), (403, o403_0 p), (404, o404_0 p), (405, o405_0 p), (406, o406_0 p), (407, o407_0 p), (408, o408_0 p), (409, o409_0 p), (410, o410_0 p), (411, o411_0 p), (412, o412_0 p), (413, o413_0 p), (414, o414_0 p), (415, o415_0 p), (416, o416_0 p), (417, o417_0 p), (418, o418_0 p), (419, o419_0 p), (420, o420_0 p), (421, o421_0 p), (422, o422_0 p), (423, o423_0 p), (424, o424_0 p), (425, o425_0 p), (426, o426_0 p), (427, o427_0 p), (428, o428_0 p), (429, o429_0 p), (430, o430_0 p), (431, o431_0 p), (432, o432_0 p), (433, o433_0 p), (434, o434_0 p), (435, o435_0 p), (436, o436_0 p), (437, o437_0 p), (438, o438_0 p), (439, o439_0 p), (440, o440_0 p), (441, o441_0 p), (442, o442_0 p), (443, o443_0 p), (444, o444_0 p), (445, o445_0 p), (446, o446_0 p), (447, o447_0 p), (448, o448_0 p), (449, o449_0 p), (450, o450_0 p), (451, o451_0 p), (452, o452_0 p), (453, o453_0 p), (454, o454_0 p), (455, o455_0 p), (456, o456_0 p), (457, o457_0 p), (458, o458_0 p), (459, o459_0 p), (460, o460_0 p), (461, o461_0 p), (462, o462_0 p), (463, o463_0 p), (464, o464_0 p), (465, o465_0 p), (466, o466_0 p)]
noncomputable def asK : List Addr := [0, 1, 2, 3, 4, 5, 6, 7, 8, 9, 10, 11, 12, 13, 14, 15, 16, 17, 18, 19, 20, 21, 22, 23, 24, 25, 26, 27, 28, 29, 30, 31, 32, 33, 34, 35, 36, 37, 38, 39, 40, 41, 42, 43, 44, 45, 46, 47, 48, 49, 50, 51, 52, 53, 54, 55, 56, 57, 58, 59, 60, 61, 62, 63, 64, 65, 66, 67, 68, 69, 70, 71, 72, 73, 74, 75, 76, 77, 78, 79, 80, 81, 82, 83, 84, 85, 86, 87, 88, 89, 90, 91, 92, 93, 94, 95, 96, 97, 98, 99, 100, 101, 102, 103, 104, 105, 106, 107, 108, 109, 110, 111, 112, 113, 114, 115, 116, 117, 118, 119, 120, 121, 122, 123, 124, 125, 126, 127, 128, 129, 130, 131, 132, 133, 134, 135, 136, 137, 138, 139, 140, 141, 142, 143, 144, 145, 146, 147, 148, 149, 150, 151, 152, 153, 154, 155, 156, 157, 158, 159, 160, 161, 162, 163, 164, 165, 166, 167, 168, 169, 170, 171, 172, 173, 174, 175, 176, 177, 178, 179, 180, 181, 182, 183, 184, 185, 186, 187, 188, 189, 190, 191, 192, 193, 194, 195, 196, 197, 198, 199, 200, 201, 202, 203, 204, 205, 206, 207, 208, 209, 210, 211, 212, 213, 214, 215, 216, 217, 218, 219, 220, 221, 222, 223, 224, 225, 226, 227, 228, 229, 230, 231, 232, 233, 234, 235, 236, 237, 238, 239, 240, 241, 242, 243, 244, 245, 246, 247, 248, 249, 250, 251, 252, 253, 254, 255, 256, 257, 258, 259, 260, 261, 262, 263, 264, 265, 266, 267, 268, 269, 270, 271, 272, 273, 274, 275, 276, 277, 278, 279, 280, 281, 282, 283, 284, 285, 286, 287, 288, 289, 290, 291, 292, 293, 294, 295, 296, 297, 298, 299, 300, 301, 302, 303, 304, 305, 306, 307, 308, 309, 310, 311, 312, 313, 314, 315, 316, 317, 318, 319, 320, 321, 322, 323, 324, 325, 326, 327, 328, 329, 330, 331, 332, 333, 334, 335, 336, 337, 338, 339, 340, 341, 342, 343, 344, 345, 346, 347, 348, 349, 350, 351, 352, 353, 354, 355, 356, 357, 358, 359, 360, 361, 362, 363, 364, 365, 366, 367, 368, 369, 370, 371, 372, 373, 374, 375, 376, 377, 378, 379, 380, 381, 382, 383, 384, 385, 386, 387, 388, 389, 390, 391, 392, 393, 394, 395, 396, 397, 398, 399, 400, 401, 402, 403, 404, 405, 406, 407, 408, 409, 410, 411, 412, 413, 414, 415, 416, 417, 418, 419, 420, 421, 422, 423, 424, 425, 426, 427, 428, 429, 430, 431, 432, 433, 434, 435, 436, 437, 438, 439, 440, 441, 442, 443, 444, 445, 446, 447, 448, 449, 450, 451, 452, 453, 454, 455, 456, 457, 458, 459, 460, 461, 462, 463, 464, 465, 466]
theorem asK_eq (p : Params) : asK = (KK p).map (·.1) := by kernel_rfl
theorem abs_end (w : World) (os : OsState) : (S Lj 467 1105 w os).abs = ⟨H1 w.params, ⟨[]⟩, {}, 1105, os⟩ := by kernel_rfl
theorem fin_ (w : World) (os : OsState) : topRun treeTable pr w 11 nn 3 (S Lj 467 1105 w os).abs ⟨doneF .next, cE, p_j, [topFrame p0]⟩ = some (S Lj 467 1105 w os).abs := by kernel_rfl
theorem run_end (w : World) (os : OsState) : topRun treeTable pr w 11 nn (393 + (134 + (129 + (143 + (189 + 3))))) (S Le 345 859 w os).abs (restOf restE tEnv cE p_e [topFrame p0]) = some (S Lj 467 1105 w os).abs :=
  piece_app (l := [topSt 7, topSt 8]) (rest := [topSt 9, topSt 10, topSt 11, topSt 12, topSt 13, topSt 14, topSt 15, topSt 16, topSt 17, topSt 18, topSt 19, topSt 20, topSt 21, topSt 22, topSt 23, topSt 24, topSt 25]) (segRun_of (g_f w os)) (
  piece_app (l := [topSt 9, topSt 10, topSt 11, topSt 12, topSt 13]) (rest := [topSt 14, topSt 15, topSt 16, topSt 17, topSt 18, topSt 19, topSt 20, topSt 21, topSt 22, topSt 23, topSt 24, topSt 25]) (segRun_of (g_g w os)) (
  piece_app (l := [topSt 14, topSt 15, topSt 16, topSt 17, topSt 18]) (rest := [topSt 19, topSt 20, topSt 21, topSt 22, topSt 23, topSt 24, topSt 25]) (segRun_of (g_h w os)) (
  piece_app (l := [topSt 19]) (rest := [topSt 20, topSt 21, topSt 22, topSt 23, topSt 24, topSt 25]) (segRun_of (g_i w os)) (
  piece_app (l := [topSt 20, topSt 21, topSt 22, topSt 23, topSt 24, topSt 25]) (rest := []) (segRun_of (g_j w os)) (
  piece_nil (fin_ w os))))))
noncomputable def NE : Nat := 393 + (134 + (129 + (143 + (189 + 3))))
theorem run_cls (w : World) (os : OsState) : topRun treeTable pr w 11 nn (225 + (522 + (522 + (352 + (1692 + (352 + (166 + NE))))))) (S Lp 233 498 w os).abs (restOf [stN cB 1, stN cB 2, stN cB 3, stN cB 4, stN cB 5, stN cB 6, stN cB 7, stN cB 8, stN cB 9, stN cB 10, stN cB 11, stN cB 12, stN cB 13] cEnv cC p_p (BB w os)) = some (S Lj 467 1105 w os).abs :=
  pieceB_app (c_spl w os) (l := [stN cB 1, stN cB 2, stN cB 3, stN cB 4, stN cB 5, stN cB 6, stN cB 7, stN cB 8]) (rest := [stN cB 9, stN cB 10, stN cB 11, stN cB 12, stN cB 13]) (segRun_of (c_q w os)) (
  pieceB_app (c_spl w os) (l := [stN cB 9]) (rest := [stN cB 10, stN cB 11, stN cB 12, stN cB 13]) (segRun_of (c_r w os)) (
  pieceB_app (c_spl w os) (l := [stN cB 10]) (rest := [stN cB 11, stN cB 12, stN cB 13]) (segRun_of (c_s w os)) (
  pieceB_app (c_spl w os) (l := [stN cB 11]) (rest := [stN cB 12, stN cB 13]) (segRun_of (c_t w os)) (
  pieceB_app (c_spl w os) (l := [stN cB 12]) (rest := [stN cB 13]) (segRun_of (c_u w os)) (
  pieceB_app (c_spl w os) (l := [stN cB 13]) (rest := []) (segRun_of (c_v w os)) (
  go_top (go_of_seg (segGo_of (c_out w os))) (run_end w os)))))))
noncomputable def NC : Nat := (225 + (522 + (522 + (352 + (1692 + (352 + (166 + NE)))))))
theorem run_set (w : World) (os : OsState) : topRun treeTable pr w 11 nn (241 + NC) (S Lo 232 487 w os).abs (restOf cB cEnv cC p_o (BB w os)) = some (S Lj 467 1105 w os).abs := by
  obtain ⟨n, hn, g⟩ := goSt (w := w)
  have g := g os (fun f => match f with | .next => (execs [stN cB 1, stN cB 2, stN cB 3, stN cB 4, stN cB 5, stN cB 6, stN cB 7, stN cB 8, stN cB 9, stN cB 10, stN cB 11, stN cB 12, stN cB 13] cEnv).wrap doneF (leaveH cEnv) id id | f => doneF f) (leaveH cEnv) id id (frA w os) [topFrame p0]
  have c : topRun treeTable pr w 11 nn NC (S Lp 233 498 w os).abs _ = _ := run_cls w os
  have h := topRun_mono (241 - n) _ _ _ _ (go_top g c)
  rw [show n + NC + (241 - n) = 241 + NC by omega] at h
  rw [cb_eq]
  unfold restOf
  rw [execs_cons_wrap]
  exact h
noncomputable def NA : Nat := 64 + (1 + (241 + NC))
theorem run_all (w : World) (os : OsState) : topRun treeTable pr w 11 nn (12 + (1 + (39 + (988 + (245 + NA))))) ⟨boot_heap w.params, ⟨[]⟩, boot_drawn, boot_toks, os⟩ (topStub pr) = some (S Lj 467 1105 w os).abs := by
  refine go_top (pre_ w os) (piece_block (block_ w os) ?_)
  rw [be_eq]
  refine piece_app (l := [topSt 0, topSt 1]) (rest := topSt 2 :: topSt 3 :: topSt 4 :: topSt 5 :: topSt 6 :: restE) (segRun_of (g_b w os)) ?_
  refine piece_app (l := [topSt 2]) (rest := topSt 3 :: topSt 4 :: topSt 5 :: topSt 6 :: restE) (segRun_of (g_c w os)) ?_
  refine piece_app (l := [topSt 3, topSt 4, topSt 5]) (rest := topSt 6 :: restE) (segRun_of (g_d w os)) ?_
  unfold restOf
  rw [execs_cons_wrap]
  exact go_top (go_of_seg (segGo_of (c_in w os))) (pieceB_block (c_spl w os) (c_block w os) (run_set w os))
end Mine
end
section
set_option autoImplicit false
set_option maxRecDepth 1000000
set_option linter.all false
namespace Mine
open PySem PySem.W PySem.Calls PyProof.Rows

noncomputable def fdAt (p : Params) (a : Addr) : FuncData := match (KK p).lookup a with
  | some ⟨_, _, .func f, _⟩ => f
  | _ => default
noncomputable def fdOf (p : Params) (a : Addr) (st : Stmt) : FuncData := fnOf (fdAt p a).name (fdAt p a).qualname (fnP st) (fnB st) (fnS st) (fdAt p a).defaults (fdAt p a).kwdefaults (fdAt p a).doc (fdAt p a).pyModule (fdAt p a).annotations (fdAt p a).code (fdAt p a).closureTuple
noncomputable def scOk (st : Stmt) : Bool := (fnS st).kind == .function && !(fnS st).isCoroutine && !(fnS st).isGenerator && ((fnS st).names.all fun x => x.2 != .cell) && ((fnP st).args.map (·.arg)).all (fun p => (fnS st).names.lookup p == some .local) && decide ((fnP st).args.map (·.arg)).Nodup
structure KF (p : Params) (a : Addr) (st : Stmt) : Prop where
  at_ : (KK p).lookup a = some ⟨.type "function", none, .func (fdOf p a st), #[]⟩
  code : codeIn (KK p) (fdAt p a).code (fdAt p a).qualname = true
  bind : ∀ ys : List Value, ys.length = ((fnP st).args.map (·.arg)).length → bindArgs (fdOf p a st) ⟨ys, []⟩ = pure (((fnP st).args.map (·.arg)).zip ys)
  sc : scOk st = true
theorem kf_35 (p : Params) : KF p 35 (mSt 2 0) where
  at_ := by kernel_rfl
  code := by kernel_rfl
  sc := by kernel_rfl
  bind := by
    intro ys h
    replace h : ys.length = 1 := h
    match ys, h with
    | [y0], _ => kernel_rfl
theorem kf_42 (p : Params) : KF p 42 (mSt 2 1) where
  at_ := by kernel_rfl
  code := by kernel_rfl
  sc := by kernel_rfl
  bind := by
    intro ys h
    replace h : ys.length = 2 := h
    match ys, h with
    | [y0, y1], _ => kernel_rfl
theorem kf_49 (p : Params) : KF p 49 (mSt 2 2) where
  at_ := by kernel_rfl
  code := by kernel_rfl
  sc := by kernel_rfl
  bind := by
    intro ys h
    replace h : ys.length = 1 := h
    match ys, h with
    | [y0], _ => kernel_rfl
theorem kf_63 (p : Params) : KF p 63 (mSt 2 4) where
  at_ := by kernel_rfl
  code := by kernel_rfl
  sc := by kernel_rfl
  bind := by
    intro ys h
    replace h : ys.length = 2 := h
    match ys, h with
    | [y0, y1], _ => kernel_rfl
theorem kf_91 (p : Params) : KF p 91 (mSt 2 8) where
  at_ := by kernel_rfl
  code := by kernel_rfl
  sc := by kernel_rfl
  bind := by
    intro ys h
    replace h : ys.length = 2 := h
    match ys, h with
    | [y0, y1], _ => kernel_rfl
theorem kf_98 (p : Params) : KF p 98 (mSt 2 9) where
  at_ := by kernel_rfl
  code := by kernel_rfl
  sc := by kernel_rfl
  bind := by
    intro ys h
    replace h : ys.length = 2 := h
    match ys, h with
    | [y0, y1], _ => kernel_rfl
theorem kf_119 (p : Params) : KF p 119 (mSt 2 12) where
  at_ := by kernel_rfl
  code := by kernel_rfl
  sc := by kernel_rfl
  bind := by
    intro ys h
    replace h : ys.length = 2 := h
    match ys, h with
    | [y0, y1], _ => kernel_rfl
theorem kf_133 (p : Params) : KF p 133 (mSt 2 14) where
  at_ := by kernel_rfl
  code := by kernel_rfl
  sc := by kernel_rfl
  bind := by
    intro ys h
    replace h : ys.length = 2 := h
    match ys, h with
    | [y0, y1], _ => kernel_rfl
theorem kf_140 (p : Params) : KF p 140 (mSt 2 15) where
  at_ := by kernel_rfl
  code := by kernel_rfl
  sc := by kernel_rfl
  bind := by
    intro ys h
    replace h : ys.length = 2 := h
    match ys, h with
    | [y0, y1], _ => kernel_rfl
theorem kf_147 (p : Params) : KF p 147 (mSt 2 16) where
  at_ := by kernel_rfl
  code := by kernel_rfl
  sc := by kernel_rfl
  bind := by
    intro ys h
    replace h : ys.length = 4 := h
    match ys, h with
    | [y0, y1, y2, y3], _ => kernel_rfl
theorem kf_154 (p : Params) : KF p 154 (mSt 2 17) where
  at_ := by kernel_rfl
  code := by kernel_rfl
  sc := by kernel_rfl
  bind := by
    intro ys h
    replace h : ys.length = 2 := h
    match ys, h with
    | [y0, y1], _ => kernel_rfl
theorem kf_161 (p : Params) : KF p 161 (mSt 2 18) where
  at_ := by kernel_rfl
  code := by kernel_rfl
  sc := by kernel_rfl
  bind := by
    intro ys h
    replace h : ys.length = 1 := h
    match ys, h with
    | [y0], _ => kernel_rfl
theorem kf_189 (p : Params) : KF p 189 (mSt 2 22) where
  at_ := by kernel_rfl
  code := by kernel_rfl
  sc := by kernel_rfl
  bind := by
    intro ys h
    replace h : ys.length = 2 := h
    match ys, h with
    | [y0, y1], _ => kernel_rfl
theorem kf_239 (p : Params) : KF p 239 (mSt 6 3) where
  at_ := by kernel_rfl
  code := by kernel_rfl
  sc := by kernel_rfl
  bind := by
    intro ys h
    replace h : ys.length = 1 := h
    match ys, h with
    | [y0], _ => kernel_rfl
theorem kf_246 (p : Params) : KF p 246 (mSt 6 4) where
  at_ := by kernel_rfl
  code := by kernel_rfl
  sc := by kernel_rfl
  bind := by
    intro ys h
    replace h : ys.length = 1 := h
    match ys, h with
    | [y0], _ => kernel_rfl
theorem kf_253 (p : Params) : KF p 253 (mSt 6 5) where
  at_ := by kernel_rfl
  code := by kernel_rfl
  sc := by kernel_rfl
  bind := by
    intro ys h
    replace h : ys.length = 1 := h
    match ys, h with
    | [y0], _ => kernel_rfl
theorem kf_260 (p : Params) : KF p 260 (mSt 6 6) where
  at_ := by kernel_rfl
  code := by kernel_rfl
  sc := by kernel_rfl
  bind := by
    intro ys h
    replace h : ys.length = 1 := h
    match ys, h with
    | [y0], _ => kernel_rfl
theorem kf_267 (p : Params) : KF p 267 (mSt 6 7) where
  at_ := by kernel_rfl
  code := by kernel_rfl
  sc := by kernel_rfl
  bind := by
    intro ys h
    replace h : ys.length = 1 := h
    match ys, h with
    | [y0], _ => kernel_rfl
theorem kf_274 (p : Params) : KF p 274 (mSt 6 8) where
  at_ := by kernel_rfl
  code := by kernel_rfl
  sc := by kernel_rfl
  bind := by
    intro ys h
    replace h : ys.length = 1 := h
    match ys, h with
    | [y0], _ => kernel_rfl
theorem kf_377 (p : Params) : KF p 377 (topSt 10) where
  at_ := by kernel_rfl
  code := by kernel_rfl
  sc := by kernel_rfl
  bind := by
    intro ys h
    replace h : ys.length = 0 := h
    obtain rfl := List.eq_nil_of_length_eq_zero h
    kernel_rfl
theorem kf_395 (p : Params) : KF p 395 (topSt 16) where
  at_ := by kernel_rfl
  code := by kernel_rfl
  sc := by kernel_rfl
  bind := by
    intro ys h
    replace h : ys.length = 0 := h
    obtain rfl := List.eq_nil_of_length_eq_zero h
    kernel_rfl
theorem kf_402 (p : Params) : KF p 402 (topSt 17) where
  at_ := by kernel_rfl
  code := by kernel_rfl
  sc := by kernel_rfl
  bind := by
    intro ys h
    replace h : ys.length = 0 := h
    obtain rfl := List.eq_nil_of_length_eq_zero h
    kernel_rfl
theorem kf_409 (p : Params) : KF p 409 (topSt 18) where
  at_ := by kernel_rfl
  code := by kernel_rfl
  sc := by kernel_rfl
  bind := by
    intro ys h
    replace h : ys.length = 0 := h
    obtain rfl := List.eq_nil_of_length_eq_zero h
    kernel_rfl
theorem kf_433 (p : Params) : KF p 433 (topSt 20) where
  at_ := by kernel_rfl
  code := by kernel_rfl
  sc := by kernel_rfl
  bind := by
    intro ys h
    replace h : ys.length = 1 := h
    match ys, h with
    | [y0], _ => kernel_rfl
theorem kf_440 (p : Params) : KF p 440 (topSt 21) where
  at_ := by kernel_rfl
  code := by kernel_rfl
  sc := by kernel_rfl
  bind := by
    intro ys h
    replace h : ys.length = 2 := h
    match ys, h with
    | [y0, y1], _ => kernel_rfl
theorem kf_447 (p : Params) : KF p 447 (topSt 22) where
  at_ := by kernel_rfl
  code := by kernel_rfl
  sc := by kernel_rfl
  bind := by
    intro ys h
    replace h : ys.length = 1 := h
    match ys, h with
    | [y0], _ => kernel_rfl
theorem kf_454 (p : Params) : KF p 454 (topSt 23) where
  at_ := by kernel_rfl
  code := by kernel_rfl
  sc := by kernel_rfl
  bind := by
    intro ys h
    replace h : ys.length = 1 := h
    match ys, h with
    | [y0], _ => kernel_rfl
theorem kf_461 (p : Params) : KF p 461 (topSt 24) where
  at_ := by kernel_rfl
  code := by kernel_rfl
  sc := by kernel_rfl
  bind := by
    intro ys h
    replace h : ys.length = 1 := h
    match ys, h with
    | [y0], _ => kernel_rfl
end Mine
end
section
set_option autoImplicit false
set_option maxRecDepth 1000000
set_option linter.all false
namespace Mine
open PySem PySem.W PySem.Calls PyProof.Rows

noncomputable def isRef (v : Option (Option Value)) (a : Nat) : Bool := match v with
  | some (some (.ref b)) => Nat.beq b a
  | _ => false
noncomputable def plainAt (K : Frag) (C : Addr) (x : Str) : Bool := match findIn K (.ref C) x with
  | some attr => noGet K attr
  | none => false
noncomputable def zeroAt (K : Frag) (C : Addr) (x : Str) : Bool := match findIn K (.ref C) x with
  | some (some (.int i t)) => decide (i = 0) && (match specialIn K (.int i t) "__get__" with | some none => true | _ => false) && !copiedNames.contains x
  | _ => false
noncomputable def takeAt (K : Frag) (C : Addr) (x : Str) : Bool := match takerIn K C x with
  | some none => true
  | _ => false
noncomputable def attrAt (K : Frag) (C CA : Addr) (q : Str × V) : Bool := match findCls K (.ref C) (.type "type") q.1 with
  | some (.val y) => handedIn y && (match q.2, y with | .cst a, .ref b => Nat.beq a b | v, y => vrB K CA 3 v y)
  | _ => false
noncomputable def globAt (K : Frag) (CA : Addr) (q : Str × V) : Bool := match nsIn K mainGlobals q.1 with
  | some (some y) => vrB K CA 4 q.2 y
  | _ => false
noncomputable def bltAt (K : Frag) (CA : Addr) (q : Str × V) : Bool := (match nsIn K mainGlobals q.1 with | some none => true | _ => false) && !(q.1 == ("__name__" : Str)) && (match bootBuiltins q.1 with | some y => vrB K CA 2 q.2 y | none => false)
noncomputable def methAt (K : Frag) (C : Addr) (q : Str × Nat) : Bool := isRef (findIn K (.ref C) q.1) q.2 && isFn K (.ref q.2) && !(fields.contains q.1)
noncomputable def excAt (K : Frag) (q : Str × Nat) : Bool := isRef (nsIn K mainGlobals q.1) q.2 && excIn K q.2 [.type "Exception", .type "BaseException", .type "object"] "Exception.__new__" && ktsIn K q.2 "BaseException" && !(q.1 == ("__debug__" : Str))
noncomputable def wd0 : Wd := wdBase (fun _ => none) (fun _ => none)
theorem k_get (p : Params) : (fields.all fun x => plainGet (KK p) 342 x) = true := by kernel_rfl
theorem k_has (p : Params) : hasDictIn (KK p) 342 = true := by kernel_rfl
theorem k_attr (p : Params) : (fields.all fun x => plainAt (KK p) 342 x) = true := by kernel_rfl
theorem k_def (p : Params) : ((["I_measure", "I_prefix"] : List Str).all fun x => zeroAt (KK p) 342 x) = true := by kernel_rfl
theorem k_set (p : Params) : findIn (KK p) (.ref 342) "__setattr__" = some (some (.builtin "object.__setattr__")) := by kernel_rfl
theorem k_over (p : Params) : plainOver (KK p) 342 = true := by kernel_rfl
theorem k_take (p : Params) : (fields.all fun x => takeAt (KK p) 342 x) = true := by kernel_rfl
theorem k_ga (p : Params) : findIn (KK p) (.ref 342) "__getattribute__" = some (some (.builtin "object.__getattribute__")) := by kernel_rfl
theorem k_gx (p : Params) : findIn (KK p) (.ref 342) "__getattr__" = some none := by kernel_rfl
theorem k_reads (p : Params) : readsIn (KK p) 342 (.type "type") = true := by kernel_rfl
theorem k_cat (p : Params) : wd0.attr.all (attrAt (KK p) 342 220) = true := by kernel_rfl
theorem k_aget (p : Params) : ((["s", "substring_i", "result"] : List Str).all fun x => plainGet (KK p) 220 x && plainAt (KK p) 220 x) = true := by kernel_rfl
theorem k_ahas (p : Params) : hasDictIn (KK p) 220 = true := by kernel_rfl
theorem k_glob (p : Params) : wd0.glob.all (globAt (KK p) 220) = true := by kernel_rfl
theorem k_blt (p : Params) : wd0.blt.all (bltAt (KK p) 220) = true := by kernel_rfl
theorem k_meth (p : Params) : wd0.meth.all (methAt (KK p) 342) = true := by kernel_rfl
theorem k_exc (p : Params) : wd0.exc.all (excAt (KK p)) = true := by kernel_rfl
noncomputable def fnAddrs : List Nat := fnAt.map (·.1)
theorem k_keep (p : Params) : fnAddrs.all (fun a => keepIn (KK p) (.ref a)) = true := by kernel_rfl
end Mine
end
section
set_option autoImplicit false
set_option maxRecDepth 1000000
set_option linter.all false
namespace Mine
open PySem PySem.W PySem.Calls PyProof.Rows

theorem isRef_eq {v : Option (Option Value)} {a : Nat} (h : isRef v a = true) : v = some (some (.ref a)) := by
  unfold isRef at h
  split at h
  · rw [Nat.eq_of_beq_eq_true h]
  · cases h
theorem mem_of_lookup {α : Type} {l : List (Nat × α)} {a : Nat} {x : α} (h : l.lookup a = some x) : (a, x) ∈ l := by
  induction l with
  | nil => cases h
  | cons p r ih =>
    rw [List.lookup_cons] at h
    cases q : a == p.1 with
    | true =>
      rw [q] at h
      obtain rfl := Option.some.inj h
      rw [eq_of_beq q]
      exact .head _
    | false => rw [q] at h; exact .tail _ (ih h)
/-- the walk's fixed things over the top of a world -/
structure XOk (X : Fx) (sums : Nat → Option Summ) : Prop where
  k : X.K = KK X.w.params
  wd : X.wd = wdBase fnIn sums
  ca : X.CA = 220
  hc : ∀ a o, X.K.lookup a = some o → X.Hc a o
  sm : ∀ a, (sums a).isSome = true → a ∈ fnAddrs
theorem fnAt_get {a : Nat} {F : Fn} (h : fnIn a = some F) : ∃ x, (a, x) ∈ fnAt ∧ F = fnOfSt (match x.1 with | some c => mSt c x.2 | none => topSt x.2) := by
  unfold fnIn at h
  rw [Option.map_eq_some_iff] at h
  obtain ⟨x, hx, rfl⟩ := h
  exact ⟨x, mem_of_lookup hx, rfl⟩
theorem kok {X : Fx} {sums : Nat → Option Summ} (H : XOk X sums) : KOk X := by
  obtain ⟨hk, hw, hca, hc, sm⟩ := H
  have hcls : X.wd.cls = 342 := by rw [hw]; rfl
  refine ⟨?_, ?_, ?_, ?_, ?_, ?_, ?_, ?_, ?_, ?_, ?_, ?_, ?_, ?_, ?_, ?_, ?_⟩
  · intro x hx
    rw [hk, hcls]
    exact List.all_eq_true.mp (k_get _) x hx
  · rw [hk, hcls]; exact k_has _
  · intro x hx
    rw [hk, hcls]
    have := List.all_eq_true.mp (k_attr X.w.params) x hx
    unfold plainAt at this
    split at this
    · exact ⟨_, by assumption, this⟩
    · cases this
  · intro x hx
    rw [hk, hcls]
    have := List.all_eq_true.mp (k_def X.w.params) x hx
    unfold zeroAt at this
    split at this
    · rename_i i t hf
      simp only [Bool.and_eq_true, Bool.not_eq_true'] at this
      obtain ⟨⟨h1, h2⟩, h3⟩ := this
      obtain rfl := of_decide_eq_true h1
      refine ⟨t, hf, ?_, h3⟩
      split at h2
      · assumption
      · cases h2
    · cases this
  · rw [hk, hcls]; exact k_set _
  · rw [hk, hcls]; exact k_over _
  · intro x hx
    rw [hk, hcls]
    have := List.all_eq_true.mp (k_take X.w.params) x hx
    unfold takeAt at this
    split at this
    · assumption
    · cases this
  · rw [hk, hcls]; exact k_ga _
  · rw [hk, hcls]; exact k_gx _
  · refine ⟨.type "type", by rw [hk, hcls]; exact k_reads _, ?_⟩
    have hat : X.wd.attr = wd0.attr := by rw [hw]; rfl
    rw [hat]
    refine lookD_all (α := Unit) (P := fun x v => ∃ y, findCls X.K (.ref X.wd.cls) (.type "type") x = some (.val y) ∧ handedIn y = true ∧ ∀ nw, VR X nw v y) fun q hq => ?_
    have := List.all_eq_true.mp (k_cat X.w.params) q hq
    rw [hcls]
    unfold attrAt at this
    rw [← hk, ← hca] at this
    split at this
    · rename_i y hf
      rw [Bool.and_eq_true] at this
      refine ⟨y, hf, this.1, fun nw => ?_⟩
      have h2 := this.2
      split at h2
      · rename_i a' b' e1
        rw [e1, Nat.eq_of_beq_eq_true h2]; exact .cst _
      · exact vrB_ok hc 3 _ _ h2 nw
    · cases this
  · intro x hx
    have := List.all_eq_true.mp (k_aget X.w.params) x hx
    rw [Bool.and_eq_true, ← hk, ← hca] at this
    refine ⟨this.1, ?_⟩
    have h2 := this.2
    unfold plainAt at h2
    split at h2
    · exact ⟨_, by assumption, h2⟩
    · cases h2
  · rw [hk, hca]; exact k_ahas _
  · have hg : X.wd.glob = wd0.glob := by rw [hw]; rfl
    rw [hg]
    refine lookD_all (α := Unit) (P := fun x v => ∃ y, nsIn X.K mainGlobals x = some (some y) ∧ ∀ nw, VR X nw v y) fun q hq => ?_
    have := List.all_eq_true.mp (k_glob X.w.params) q hq
    unfold globAt at this
    rw [← hk, ← hca] at this
    split at this
    · rename_i y hf
      exact ⟨y, hf, fun nw => vrB_ok hc 4 _ _ this nw⟩
    · cases this
  · have hg : X.wd.blt = wd0.blt := by rw [hw]; rfl
    rw [hg]
    refine lookD_all (α := Unit) (P := fun x v => nsIn X.K mainGlobals x = some none ∧ x ≠ "__name__" ∧ ∃ y, bootBuiltins x = some y ∧ ∀ nw, VR X nw v y) fun q hq => ?_
    have := List.all_eq_true.mp (k_blt X.w.params) q hq
    unfold bltAt at this
    rw [← hk, ← hca] at this
    simp only [Bool.and_eq_true, Bool.not_eq_true'] at this
    obtain ⟨⟨h1, h2⟩, h3⟩ := this
    refine ⟨?_, beq_eq_false_iff_ne.mp h2, ?_⟩
    · split at h1
      · assumption
      · cases h1
    · split at h3
      · rename_i y hf
        exact ⟨y, hf, fun nw => vrB_ok hc 2 _ _ h3 nw⟩
      · cases h3
  · have hg : X.wd.meth = wd0.meth := by rw [hw]; rfl
    rw [hg]
    refine lookN_all (P := fun x a => findIn X.K (.ref X.wd.cls) x = some (some (.ref a)) ∧ typeIn X.K (.ref a) = some (.type "function") ∧ x ∉ fields) fun q hq => ?_
    have := List.all_eq_true.mp (k_meth X.w.params) q hq
    unfold methAt at this
    rw [← hk] at this
    simp only [Bool.and_eq_true, Bool.not_eq_true'] at this
    obtain ⟨⟨h1, h2⟩, h3⟩ := this
    rw [hcls]
    refine ⟨isRef_eq h1, beq_iff_eq.mp h2, fun hm => ?_⟩
    rw [List.contains_iff_mem.mpr hm] at h3
    cases h3
  · intro a ha
    have hm : a ∈ fnAddrs := by
      unfold isFun at ha
      rw [Bool.or_eq_true, hw] at ha
      rcases ha with ha | ha
      · obtain ⟨F, hF⟩ := Option.isSome_iff_exists.mp ha
        obtain ⟨x, hx, _⟩ := fnAt_get hF
        exact List.mem_map.mpr ⟨_, hx, rfl⟩
      · exact sm a ha
    rw [hk]
    exact List.all_eq_true.mp (k_keep _) a hm
  · have hg : X.wd.exc = wd0.exc := by rw [hw]; rfl
    rw [hg]
    refine lookN_all (P := fun x c => nsIn X.K mainGlobals x = some (some (.ref c)) ∧ excIn X.K c [.type "Exception", .type "BaseException", .type "object"] "Exception.__new__" = true ∧ ktsIn X.K c "BaseException" = true ∧ (x == ("__debug__" : Str)) = false) fun q hq => ?_
    have := List.all_eq_true.mp (k_exc X.w.params) q hq
    unfold excAt at this
    rw [← hk] at this
    simp only [Bool.and_eq_true, Bool.not_eq_true'] at this
    obtain ⟨⟨⟨h1, h2⟩, h3⟩, h4⟩ := this
    exact ⟨isRef_eq h1, h2, h3, h4⟩
/-! the functions -/
theorem KF.fn {X : Fx} {sums : Nat → Option Summ} (H : XOk X sums) {a : Addr} {st : Stmt} (h : KF X.w.params a st) : KFn X a (fnOfSt st) := by
  obtain ⟨h1, h2, h3, h4⟩ := h
  unfold scOk at h4
  simp only [Bool.and_eq_true, Bool.not_eq_true'] at h4
  obtain ⟨⟨⟨⟨⟨s1, s2⟩, s3⟩, s4⟩, s5⟩, s6⟩ := h4
  refine ⟨_, _, _, _, _, _, _, _, _, _, _, _, _, (by rw [H.k]; exact h1), (by rw [H.k]; exact h2), h3, ?_, s2, s3, ?_, ?_, of_decide_eq_true s6⟩
  · cases q : (fnS st).kind <;> rw [q] at s1 <;> first | exact q | cases s1
  · intro x hx e
    have := List.all_eq_true.mp s4 x hx
    rw [e] at this
    cases this
  · intro x hx
    exact beq_iff_eq.mp (List.all_eq_true.mp s5 x hx)
end Mine
end
section
set_option autoImplicit false
set_option maxRecDepth 1000000
set_option linter.all false
namespace Mine
open PySem PySem.W PySem.Calls PyProof.Rows

theorem init_body : ∃ p1 p2 p3 p4 p5 k, fnB (mSt 2 0) = [.Expr (.Call (.Attribute (.Name "self" p1) "set_current" p2) [.Constant (.str "") k p3] [] p4) p5] ∧ (p2.endLine == p4.line) = true ∧ (fnS (mSt 2 0)).names.lookup ("self" : Str) = some .local := ⟨_, _, _, _, _, _, rfl, rfl, rfl⟩
inductive SetcOf : List Stmt → Prop where
  | mk (a1 a2 a3 a4 b1 b2 b3 b4 : Pos) (k2 : Nat) (c1 c2 c3 c4 c5 c6 c7 d1 d2 d3 d4 : Pos) (k4 : Nat) (e1 e2 e3 e4 e5 f1 f2 f3 f4 f5 : Pos) : SetcOf
    [.Assign [.Attribute (.Name "self" a1) "current" a2] (.Name "value" a3) a4,
     .Assign [.Attribute (.Name "self" b1) "cursor" b2] (.Constant (.int 0) k2 b3) b4,
     .Assign [.Attribute (.Name "self" c1) "limit" c2] (.Call (.Name "len" c3) [.Attribute (.Name "self" c4) "current" c5] [] c6) c7,
     .Assign [.Attribute (.Name "self" d1) "limit_backward" d2] (.Constant (.int 0) k4 d3) d4,
     .Assign [.Attribute (.Name "self" e1) "bra" e2] (.Attribute (.Name "self" e3) "cursor" e4) e5,
     .Assign [.Attribute (.Name "self" f1) "ket" f2] (.Attribute (.Name "self" f3) "limit" f4) f5]
theorem setc_body : SetcOf (fnB (mSt 2 1)) ∧ (fnS (mSt 2 1)).names.lookup ("self" : Str) = some .local ∧ (fnS (mSt 2 1)).names.lookup ("value" : Str) = some .local ∧ (fnS (mSt 2 1)).names.lookup ("len" : Str) = some .globalImplicit :=
  ⟨.mk _ _ _ _ _ _ _ _ _ _ _ _ _ _ _ _ _ _ _ _ _ _ _ _ _ _ _ _ _ _ _, rfl, rfl, rfl⟩
theorem kc_init (p : Params) : findIn (KK p) (.ref 342) "__init__" = some (some (.ref 35)) ∧ isFn (KK p) (.ref 35) = true ∧ makesIn (KK p) 342 = true := ⟨by kernel_rfl, by kernel_rfl, by kernel_rfl⟩
theorem kc_setc (p : Params) : findIn (KK p) (.ref 342) "set_current" = some (some (.ref 42)) ∧ typeIn (KK p) (.ref 42) = some (.type "function") := ⟨by kernel_rfl, by kernel_rfl⟩
theorem kc_len (p : Params) : nsIn (KK p) mainGlobals "len" = some none ∧ bootBuiltins "len" = some (.builtin "len") := ⟨by kernel_rfl, by kernel_rfl⟩
theorem kc_keep (p : Params) : keepIn (KK p) (.ref 42) = true ∧ keepIn (KK p) (.ref 342) = true := ⟨by kernel_rfl, by kernel_rfl⟩
theorem kc_cls (p : Params) : nsIn (KK p) mainGlobals "IndonesianStemmer" = some (some (.ref 342)) := by kernel_rfl
/-- what reads and stores of the object ask -/
structure IOk (p : Params) : Prop where
  get : ∀ x ∈ fields, plainGet (KK p) 342 x = true
  has : hasDictIn (KK p) 342 = true
  attr : ∀ x ∈ fields, ∃ attr, findIn (KK p) (.ref 342) x = some attr ∧ noGet (KK p) attr = true
  take : ∀ x ∈ fields, takerIn (KK p) 342 x = some none
theorem iok (p : Params) : IOk p := by
  refine ⟨fun x hx => List.all_eq_true.mp (k_get _) x hx, k_has _, fun x hx => ?_, fun x hx => ?_⟩
  · have := List.all_eq_true.mp (k_attr p) x hx
    unfold plainAt at this
    split at this
    · exact ⟨_, by assumption, this⟩
    · cases this
  · have := List.all_eq_true.mp (k_take p) x hx
    unfold takeAt at this
    split at this
    · assumption
    · cases this
section
variable {w : World} {A : Around} {E : Value → Shared → Prop} {s : Shared} {h₀ : Heap} {L x dx : Addr} {m : Str → Option Value} {es : List DictEntry} {n : Nat}
theorem st_field {name : Str} {v : Value} {Q : Unit → Shared → Prop} (F : Fr h₀ L s.heap m) (X₀ : (KK w.params).In h₀) (N : News h₀ L s.heap [(x, instObj 342 dx), (dx, dictOf es n)]) (hne : x ≠ dx) (hx : name ∈ fields) (hl : (getL name es).isSome = true) (hlen : es.length ≤ 900)
    (h : ∀ h' tk n', Fr h₀ L h' m → News h₀ L h' [(x, instObj 342 dx), (dx, dictOf (putL name (PyData.keyHash w.params name) (.str name tk) v es) n')] → Q () { s with heap := h', toks := s.toks + 2 }) : wpAny (model pr w) A (setAttr (.ref x) name v) Q E s :=
  PySem.W.set_dict F X₀ N (PySem.W.InstAt.of_news N (.head _) (.tail _ (.head _))) rfl (k_set _) (k_over _) ((iok _).take name hx) (k_has _) hl rfl (.tail hne (.head fun _ h => by cases h)) (Nat.le_trans putL_len (by omega)) fun h' F' N' => h h' _ _ F' N'
theorem rd_field {name : Str} {v : Value} {Q : Value → Shared → Prop} {b : Bool} (F : Fr h₀ L s.heap m) (X₀ : (KK w.params).In h₀) (N : News h₀ L s.heap [(x, instObj 342 dx), (dx, dictOf es n)]) (hx : name ∈ fields) (hl : getL name es = some (some v)) (hv : handedIn v = true) (h : Q v { s with toks := s.toks + 1 }) : wpAny (model pr w) A (getAttr (.ref x) name b) Q E s := by
  obtain ⟨attr, ha, hb⟩ := (iok w.params).attr name hx
  exact get_own F X₀ (PySem.W.InstAt.of_news N (.head _) (.tail _ (.head _))) ((iok _).get name hx) (k_has _) ha hb hl hv h
end
end Mine
end
section
set_option autoImplicit false
set_option maxRecDepth 1000000
set_option linter.all false
namespace Mine
open PySem PySem.W PySem.Calls PyProof.Rows

noncomputable def f6s : List Str := ["current", "cursor", "limit", "limit_backward", "bra", "ket"]
/-- the six fields after the first set_current('') -/
inductive Es6 : List DictEntry → Prop where
  | mk (h1 : Int) (k1 t1 : Tok) (h2 : Int) (k2 t2 : Tok) (h3 : Int) (k3 t3 : Tok) (h4 : Int) (k4 t4 : Tok) (h5 : Int) (k5 t5 : Tok) (h6 : Int) (k6 t6 : Tok) : Es6
  [⟨h1, .str "current" k1, .str "" t1⟩, ⟨h2, .str "cursor" k2, .int 0 t2⟩, ⟨h3, .str "limit" k3, .int 0 t3⟩, ⟨h4, .str "limit_backward" k4, .int 0 t4⟩, ⟨h5, .str "bra" k5, .int 0 t5⟩, ⟨h6, .str "ket" k6, .int 0 t6⟩]
theorem locs_of {st : Stmt} (h : scOk st = true) : (fnS st).kind = .function ∧ (fnS st).isCoroutine = false ∧ (fnS st).isGenerator = false ∧ (∀ x ∈ (fnS st).names, x.2 ≠ .cell) ∧ ∀ p ∈ (fnP st).args.map (·.arg), (fnS st).names.lookup p = some .local := by
  unfold scOk at h
  simp only [Bool.and_eq_true, Bool.not_eq_true'] at h
  obtain ⟨⟨⟨⟨⟨s1, s2⟩, s3⟩, s4⟩, s5⟩, s6⟩ := h
  refine ⟨?_, s2, s3, fun x hx e => ?_, fun x hx => beq_iff_eq.mp (List.all_eq_true.mp s5 x hx)⟩
  · cases q : (fnS st).kind <;> rw [q] at s1 <;> first | rfl | cases s1
  · have := List.all_eq_true.mp s4 x hx
    rw [e] at this
    cases this
section
variable {w : World} {A A₀ : Around} {E : Value → Shared → Prop} {s : Shared} {base h₀ : Heap} {outer : List Env} {L a x dx : Addr} {m : Str → Option Value} {cn : Str} {cs : Scope} {ccd : Value} {p : Program} {loose : List Str} {mean : ExcName → Option Value} {mg mb : Str → Option Value}
theorem setc_goes {t : Tok} {R : Result → Shared → Prop} (B : Below A₀ base outer h₀) (F : Fr h₀ L s.heap m) (X₀ : (KK w.params).In h₀) (T : Top p loose mean mg mb h₀) (hA : A.frames = some (envOf cn cs L a ccd :: outer)) (hck : cs.kind = .function) (hroom : A.depth < recursionLimit)
    (N : News h₀ L s.heap [(x, instObj 342 dx), (dx, dictOf [] 0)]) (hne : x ≠ dx)
    (k : ∀ h' tk es n, Es6 es → Fr h₀ L h' m → News h₀ L h' [(x, instObj 342 dx), (dx, dictOf es n)] → R (.ok (.ret .none)) { s with heap := h', toks := tk }) : codeAny (model pr w) A (.call (.ref 42) ⟨[.ref x, .str "" t], []⟩) R s := by
  have kf := kf_42 w.params
  obtain ⟨q1, q2, q3, q4, q5⟩ := locs_of kf.sc
  obtain ⟨hb, l1, l2, l3⟩ := setc_body
  refine code_def (env := envOf cn cs L a ccd) B F X₀ N T hA rfl hck kf.at_ kf.code hroom (BindsTo.of_eq (kf.bind [.ref x, .str "" t] rfl)) ?_ (fun g L' h₁ FG F1 N1 B1 K1 T1 => ?_) q2 q3 q1 q4
  · intro y hy
    exact q5 _ (List.of_mem_zip (a := y.1) (b := y.2) hy).1
  generalize fnB (mSt 2 1) = body at hb ⊢
  cases hb
  have Tr : TopRead p loose mg mb g := topRead_of T1
  have ms : (((fnP (mSt 2 1)).args.map (·.arg)).zip [Value.ref x, .str "" t]).reverse.lookup ("self" : Str) = some (.ref x) := rfl
  have mv : (((fnP (mSt 2 1)).args.map (·.arg)).zip [Value.ref x, .str "" t]).reverse.lookup ("value" : Str) = some (.str "" t) := rfl
  have fm : ∀ y ∈ f6s, y ∈ fields := by decide
  refine wpAny_execs_cons (plainObj_wpAny_Assign_Attribute (ld F1 mv (ld F1 ms (st_field F1 K1 N1 hne (fm _ (by decide)) rfl (Nat.le_of_ble_eq_true rfl) fun h2 tk2 n2 F2 N2 => ?_) q1 l1) q1 l2) rfl)
  refine wpAny_execs_cons (plainObj_wpAny_Assign_Attribute (wpAny_Constant_int (ld F2 ms (st_field F2 K1 N2 hne (fm _ (by decide)) rfl (Nat.le_of_ble_eq_true rfl) fun h3 tk3 n3 F3 N3 => ?_) q1 l1)) rfl)
  refine wpAny_execs_cons (plainObj_wpAny_Assign_Attribute ?_ rfl)
  refine Call_ (name_B F3 K1 Tr (kc_len w.params).1 (kc_len w.params).2 (by decide) ?_ q1 l3)
  refine callWith_method1 (spliced_more (Attribute_Name_ (ld F3 ms (rd_field F3 K1 N3 (fm _ (by decide)) rfl rfl (spliced_none ?_)) q1 l1)))
  refine P.len_str (by decide) ?_
  refine ld F3 ms (st_field F3 K1 N3 hne (fm _ (by decide)) rfl (Nat.le_of_ble_eq_true rfl) fun h4 tk4 n4 F4 N4 => ?_) q1 l1
  refine wpAny_execs_cons (plainObj_wpAny_Assign_Attribute (wpAny_Constant_int (ld F4 ms (st_field F4 K1 N4 hne (fm _ (by decide)) rfl (Nat.le_of_ble_eq_true rfl) fun h5 tk5 n5 F5 N5 => ?_) q1 l1)) rfl)
  refine wpAny_execs_cons (plainObj_wpAny_Assign_Attribute (Attribute_Name_ (ld F5 ms (rd_field F5 K1 N5 (fm _ (by decide)) rfl rfl (ld F5 ms (st_field F5 K1 N5 hne (fm _ (by decide)) rfl (Nat.le_of_ble_eq_true rfl) fun h6 tk6 n6 F6 N6 => ?_) q1 l1)) q1 l1)) rfl)
  refine wpAny_execs_cons (plainObj_wpAny_Assign_Attribute (Attribute_Name_ (ld F6 ms (rd_field F6 K1 N6 (fm _ (by decide)) rfl rfl (ld F6 ms (st_field F6 K1 N6 hne (fm _ (by decide)) rfl (Nat.le_of_ble_eq_true rfl) fun h7 tk7 n7 F7 N7 => ?_) q1 l1)) q1 l1)) rfl)
  exact wpAny_execs_nil (leaveK_ F7 N7 fun Fx Nx => k h7 _ _ n7 (.mk _ _ _ _ _ _ _ _ _ _ _ _ _ _ _ _ _ _) Fx Nx)
end
end Mine
end
section
set_option autoImplicit false
set_option maxRecDepth 1000000
set_option linter.all false
namespace Mine
open PySem PySem.W PySem.Calls PyProof.Rows
section
variable {w : World} {A A₀ : Around} {E : Value → Shared → Prop} {s : Shared} {base h₀ : Heap} {outer : List Env} {L a x dx : Addr} {m : Str → Option Value} {cn : Str} {cs : Scope} {ccd : Value} {p : Program} {loose : List Str} {mean : ExcName → Option Value} {mg mb : Str → Option Value}
theorem init_goes {R : Result → Shared → Prop} (B : Below A₀ base outer h₀) (F : Fr h₀ L s.heap m) (X₀ : (KK w.params).In h₀) (T : Top p loose mean mg mb h₀) (hA : A.frames = some (envOf cn cs L a ccd :: outer)) (hck : cs.kind = .function) (hroom : A.depth + 1 < recursionLimit)
    (N : News h₀ L s.heap [(x, instObj 342 dx), (dx, dictOf [] 0)]) (hne : x ≠ dx)
    (k : ∀ h' tk es n, Es6 es → Fr h₀ L h' m → News h₀ L h' [(x, instObj 342 dx), (dx, dictOf es n)] → R (.ok (.ret .none)) { s with heap := h', toks := tk }) : codeAny (model pr w) A (.call (.ref 35) ⟨[.ref x], []⟩) R s := by
  have kf := kf_35 w.params
  obtain ⟨q1, q2, q3, q4, q5⟩ := locs_of kf.sc
  obtain ⟨p1, p2, p3, p4, p5, kk, hb, hl, l1⟩ := init_body
  refine code_def (env := envOf cn cs L a ccd) B F X₀ N T hA rfl hck kf.at_ kf.code (Nat.lt_of_succ_lt hroom) (BindsTo.of_eq (kf.bind [.ref x] rfl)) ?_ (fun g L' h₁ FG F1 N1 B1 K1 T1 => ?_) q2 q3 q1 q4
  · intro y hy
    exact q5 _ (List.of_mem_zip (a := y.1) (b := y.2) hy).1
  rw [hb]
  have ms : (((fnP (mSt 2 0)).args.map (·.arg)).zip [Value.ref x]).reverse.lookup ("self" : Str) = some (.ref x) := rfl
  refine wpAny_execs_cons (wpAny_Expr_any ?_ (by show ((fnS (mSt 2 0)).kind == .module && _) = false; rw [q1]; rfl) rfl)
  refine Call_meth rfl hl (by show 1 < 25; decide) rfl (ld F1 ms ?_ q1 l1)
  have I := PySem.W.InstAt.of_news N1 (.head _) (.tail _ (.head _))
  refine PySem.W.method_fn (K1.keeps F1.keep) I (k_ga _) (k_gx _) (kc_setc _).1 (kc_setc _).2 rfl ?_
  refine callWith_K (K1.keeps F1.keep) (kc_keep _).1 (spliced_more (Constant_str (spliced_none ⟨K1.keeps F1.keep, ?_⟩))) rfl rfl
  refine wpAny_call (setc_goes (A₀ := A) (base := base) (outer := envOf cn cs L a ccd :: outer) (cn := (fdAt w.params 35).qualname) (cs := fnS (mSt 2 0)) (a := 35) (ccd := (fdAt w.params 35).code) B1 F1 K1 T1 (Around.frames_deeper hA) q1 hroom N1 hne fun h' tk es n he F' N' => ?_)
  exact wpAny_execs_nil (leaveK_ F' N' fun Fx Nx => k h' _ es n he Fx Nx)
end
end Mine
end
section
set_option autoImplicit false
set_option maxRecDepth 1000000
set_option linter.all false
namespace Mine
open PySem PySem.W PySem.Calls PyProof.Rows
theorem kf_all (p : Params) : ∀ e ∈ fnAt, KF p e.1 (match e.2.1 with | some c => mSt c e.2.2 | none => topSt e.2.2) := by
  intro e he
  simp only [fnAt, List.mem_cons, List.not_mem_nil, or_false] at he
  rcases he with rfl | rfl | rfl | rfl | rfl | rfl | rfl | rfl | rfl | rfl | rfl | rfl | rfl | rfl | rfl | rfl | rfl | rfl | rfl | rfl | rfl | rfl | rfl | rfl | rfl | rfl | rfl | rfl
  · exact kf_35 p
  · exact kf_42 p
  · exact kf_49 p
  · exact kf_63 p
  · exact kf_91 p
  · exact kf_98 p
  · exact kf_119 p
  · exact kf_133 p
  · exact kf_140 p
  · exact kf_147 p
  · exact kf_154 p
  · exact kf_161 p
  · exact kf_189 p
  · exact kf_239 p
  · exact kf_246 p
  · exact kf_253 p
  · exact kf_260 p
  · exact kf_267 p
  · exact kf_274 p
  · exact kf_377 p
  · exact kf_395 p
  · exact kf_402 p
  · exact kf_409 p
  · exact kf_433 p
  · exact kf_440 p
  · exact kf_447 p
  · exact kf_454 p
  · exact kf_461 p
theorem fns_ok {X : Fx} {sums : Nat → Option Summ} (H : XOk X sums) : ∀ a F, X.wd.fn a = some F → KFn X a F := by
  intro a F h
  rw [H.wd] at h
  obtain ⟨x, hx, rfl⟩ := fnAt_get h
  exact (kf_all X.w.params _ hx).fn H
theorem k_232 (p : Params) : (KK p).lookup 232 = some (o232 p) := by kernel_rfl
theorem k_410 (p : Params) : ∃ es n, (KK p).lookup 410 = some { cls := .type "dict", data := .dict es n } ∧ KeysLit p es.toList ∧ True := ⟨_, _, rfl, by unfold KeysLit; exact ⟨⟨_, _, rfl, rfl⟩, ⟨_, _, rfl, rfl⟩, ⟨_, _, rfl, rfl⟩, ⟨_, _, rfl, rfl⟩, ⟨_, _, rfl, rfl⟩, trivial⟩, trivial⟩
noncomputable def d410 : List (Str × V) := (wd0.dicts 410).getD []
noncomputable def dictAt (K : Frag) (CA : Addr) (c : Addr) (q : Str × V) : Bool := match nsIn K c q.1 with
  | some (some y) => vrB K CA 4 q.2 y
  | _ => false
theorem k_dict (p : Params) : d410.all (dictAt (KK p) 220 410) = true := by kernel_rfl
end Mine
end
section
set_option autoImplicit false
set_option maxRecDepth 1000000
set_option linter.all false
namespace Mine
open PySem PySem.W PySem.Calls PyProof.Rows
theorem SInv.unled {w : World} {S : Str → Bool} {n : Nat} {D : SD} (I : SInv w S n D) (k : Nat) : SInv w S n (D.1, k, { D.2.2 with led := false }) := by
  obtain ⟨es, ep, t⟩ := D
  obtain ⟨a, b, c, d⟩ := I
  exact ⟨a, b, c, by cases t; exact d⟩
theorem I6 {w : World} : SInv w S5 5 (D6 w) := I5.unled _
theorem SInv.setOf {w : World} {S : Str → Bool} {n : Nat} {D : SD} {h : Heap} (I : SInv w S n D) (hn : n < 100) (hk : h.get? 232 = some (setO D)) : h.SetOf (PySem.strKind pr w) 232 S n := by
  obtain ⟨es, ep, t⟩ := D
  obtain ⟨a, b, c, d⟩ := I
  exact ⟨_, es, ep, t, hk, ⟨rfl, rfl, rfl⟩, rfl, a, b, (by dsimp only at c; rw [c]; show n < 4096; omega), d, c⟩
theorem sets_ok {X : Fx} {sums : Nat → Option Summ} (H : XOk X sums) : SetsOk X := by
  intro a l h
  have hs : X.wd.sets = wd0.sets := by rw [H.wd]; rfl
  rw [hs] at h
  have h : (if a = 232 then some (["a", "e", "i", "o", "u"] : List Str) else none) = some l := h
  split at h
  · rename_i ha
    subst ha
    obtain rfl := Option.some.inj h
    refine ⟨S5, 5, fun x => ?_, fun hh hin => ?_⟩
    · show (((((false || decide (x = "a")) || decide (x = "e")) || decide (x = "i")) || decide (x = "o")) || decide (x = "u")) = _
      have e : ∀ y : Str, (y == x) = decide (x = y) := fun y => by
        by_cases q : x = y
        · subst q; simp
        · rw [decide_eq_false q]; exact beq_eq_false_iff_ne.mpr fun z => q z.symm
      simp only [List.any_cons, List.any_nil, e, Bool.or_false, Bool.false_or, Bool.or_assoc]
    · have hk : hh.get? 232 = some (o232 X.w.params) := hin 232 _ (by rw [H.k]; exact k_232 _)
      rw [← o232_eq] at hk
      exact I6.setOf (by decide) hk
  · cases h
theorem dicts_ok {X : Fx} {sums : Nat → Option Summ} (H : XOk X sums) : DictsOk X := by
  intro c l h
  have hs : X.wd.dicts = wd0.dicts := by rw [H.wd]; rfl
  rw [hs] at h
  have hc : c = 410 := by
    by_cases q : c = 410
    · exact q
    · have : wd0.dicts c = none := by show (if c = 410 then _ else none) = _; rw [if_neg q]
      rw [this] at h; cases h
  subst hc
  have hl : l = d410 := by
    unfold d410
    rw [h]; rfl
  subst hl
  obtain ⟨es, n, h1, h2, _⟩ := k_410 X.w.params
  refine ⟨es, n, by rw [H.k]; exact h1, h2, ?_⟩
  refine lookD_all (α := Unit) (P := fun x v => ∃ y, nsIn X.K 410 x = some (some y) ∧ ∀ nw, VR X nw v y) fun q hq => ?_
  have := List.all_eq_true.mp (k_dict X.w.params) q hq
  unfold dictAt at this
  rw [← H.k, ← H.ca] at this
  split at this
  · rename_i y hf
    exact ⟨y, hf, fun nw => vrB_ok H.hc 4 _ _ this nw⟩
  · cases this
theorem all_ok {X : Fx} {sums : Nat → Option Summ} (H : XOk X sums) (hu : SumsOk X) : AllOk X := ⟨kok H, sets_ok H, dicts_ok H, fns_ok H, hu⟩
end Mine
end
section
set_option autoImplicit false
set_option maxRecDepth 1000000
set_option linter.all false
namespace Mine
open PySem PySem.W PySem.Calls PyProof.Rows
theorem long_body : ∃ p1 p2 p3 p4 p5 p6 p7 p8 p9 p10 p11 p12 p13 k sc, fnB (topSt 20) = [.Return (some (.Compare (.Call (.Name "len" p1) [.ListComp (.Name "sign" p2) [⟨.Name "sign" p3, .Name "word" p4, [.Compare (.Name "sign" p5) [.In] [.Call (.Name "_law_vowels" p6) [] [] p7] p8], 0⟩] sc p9] [] p10) [.Gt] [.Constant (.int 2) k p11] p12)) p13] ∧
    sc.kind = .function ∧ (∀ y ∈ sc.names, y.2 ≠ .free) ∧ (∀ y ∈ sc.names, y.2 ≠ .cell) ∧ (∀ y ∈ sc.names, y.2 = .local → sc.names.lookup y.1 = some .local) ∧ sc.names.lookup ("sign" : Str) = some .local ∧ sc.names.lookup ("_law_vowels" : Str) = some .globalImplicit :=
  ⟨_, _, _, _, _, _, _, _, _, _, _, _, _, _, _, rfl, rfl, by decide, by decide, by decide, rfl, rfl⟩
theorem vow_body : ∃ p0 k1 k2 k3 k4 k5 p1 p2 p3 p4 p5 p6, fnB (topSt 10) = [.Return (some (.List [.Constant (.str "a") k1 p1, .Constant (.str "e") k2 p2, .Constant (.str "i") k3 p3, .Constant (.str "o") k4 p4, .Constant (.str "u") k5 p5] p6)) p0] :=
  ⟨_, _, _, _, _, _, _, _, _, _, _, _, rfl⟩
end Mine
end
section
set_option autoImplicit false
set_option maxRecDepth 1000000
set_option linter.all false
namespace Mine
open PySem PySem.W PySem.Calls PyProof.Rows

noncomputable def vl : List Str := ["a", "e", "i", "o", "u"]
noncomputable def isV (c : Nat) : Bool := vl.any (· == (⟨#[c]⟩ : Str))
noncomputable def signs (x : Str) : List V := (x.cps.toList.filter isV).map fun c => V.str ⟨#[c]⟩
noncomputable def longB (x : Str) : Bool := decide ((2 : Int) < ((signs x).length : Int))
noncomputable def longSumm : Summ := ⟨2, fun args t k => match args with
  | [.str x] => (match Nat.ble x.length 1000 with | true => k (.bool (longB x)) t | false => none)
  | _ => none⟩
noncomputable def sums : Nat → Option Summ := fun a => if a = 433 then some longSumm else none
noncomputable def wd : Wd := wdBase fnIn sums
end Mine
end
section
set_option autoImplicit false
set_option maxRecDepth 1000000
set_option linter.all false
namespace Mine
open PySem PySem.W PySem.Calls PyProof.Rows

variable {X : Fx}
noncomputable def pV : Value → Bool
  | .str y _ => vl.any (· == y)
  | _ => false
theorem signs_rel {nw : List (Addr × Obj)} : ∀ {vs ys : List Value} {l : List Nat}, vs.length = l.length → (∀ (j : Nat) (v : Value), vs[j]? = some v → ∃ (c : Nat) (u : Tok), l[j]? = some c ∧ v = Value.str ⟨#[c]⟩ u) → Paired (fun v y => y = v) (vs.filter pV) ys →
    VRs X nw ((l.filter isV).map fun c => V.str ⟨#[c]⟩) ys
  | [], ys, l, hl, hv, hp => by
    cases l with
    | nil => cases hp; exact .nil
    | cons _ _ => cases hl
  | v :: vs, ys, l, hl, hv, hp => by
    cases l with
    | nil => cases hl
    | cons c l =>
      obtain ⟨c', u, e1, e2⟩ := hv 0 v rfl
      have e1 : c = c' := by simpa using e1
      subst e1 e2
      have hv' : ∀ (j : Nat) (v : Value), vs[j]? = some v → ∃ (c : Nat) (u : Tok), l[j]? = some c ∧ v = Value.str ⟨#[c]⟩ u := fun j w hw => by
        have := hv (j + 1) w (by simpa using hw)
        simpa using this
      have hl' : vs.length = l.length := Nat.succ.inj hl
      have hpv : pV (.str ⟨#[c]⟩ u) = isV c := rfl
      cases q : isV c with
      | true =>
        rw [List.filter_cons, hpv, q, if_pos rfl] at hp
        rw [List.filter_cons, q, if_pos rfl, List.map_cons]
        cases hp with
        | cons hf hr =>
          subst hf
          exact .cons _ _ _ _ (.str _ _ (by show 1 ≤ 1000000; decide)) (signs_rel hl' hv' hr)
      | false =>
        rw [List.filter_cons, hpv, q, if_neg (by decide)] at hp
        rw [List.filter_cons, q, if_neg (by decide)]
        exact signs_rel hl' hv' hp
/-- the vowels' list, made anew: nothing that stands changes -/
theorem vowels_call {sums : Nat → Option Summ} (HX : XOk X sums) {A : Around} {E : Value → Shared → Prop} {s : Shared} {Q : Value → Shared → Prop} (hK : X.K.In s.heap) (hlim : s.heap.NoLimit) (hroom : A.depth < recursionLimit)
    (h : ∀ l h' tk vs, h'.IsList l (vs : List Value).toArray → StrsAre vs vl → (∀ b o, s.heap.get? b = some o → h'.get? b = some o) → Q (.ref l) { s with heap := h', toks := tk }) : wpAny (model pr X.w) A (PySem.call (.ref 377) []) Q E s := by
  have kf := kf_377 X.w.params
  obtain ⟨p0, k1, k2, k3, k4, k5, p1, p2, p3, p4, p5, p6, hb⟩ := vow_body
  have hs := kf.sc
  unfold scOk at hs
  simp only [Bool.and_eq_true, Bool.not_eq_true'] at hs
  obtain ⟨⟨⟨⟨⟨s1, s2⟩, s3⟩, s4⟩, s5⟩, s6⟩ := hs
  have hat : s.heap.get? 377 = some _ := hK 377 _ (by rw [HX.k]; exact kf.at_)
  have hcd : s.heap.CodeRec (fdAt X.w.params 377).code (fdAt X.w.params 377).qualname := codeRec_of hK (by rw [HX.k]; exact kf.code)
  refine wpAny_call (codeAny_call_def (fd := fdOf X.w.params 377 (topSt 10)) (body := fnB (topSt 10)) (binds := []) hroom hat rfl hlim hcd rfl (BindsTo.of_eq (kf.bind [] rfl)) ?_ (fun x hx => by cases hx) (fun h₀ _ hk => ?_) s2 s3 ?_)
  · intro x hx e
    have := List.all_eq_true.mp s4 x hx
    rw [e] at this
    cases this
  · rw [hb]
    refine wpAny_execs_cons (wpAny_Return_some (List_ ?_))
    refine spliced_more (Constant_str ?_)
    refine spliced_more (Constant_str ?_)
    refine spliced_more (Constant_str ?_)
    refine spliced_more (Constant_str ?_)
    refine spliced_more (Constant_str ?_)
    refine spliced_none ?_
    refine wpAny_newObj_type ?_ (by show (5 : Nat) ≤ sizeLine; rw [sizeLine_eq]; decide)
    refine h _ _ _ [.str "a" _, .str "e" _, .str "i" _, .str "o" _, .str "u" _] ⟨_, Heap.get?_push_size _ rfl, rfl, _, rfl⟩ (.cons _ _ (.cons _ _ (.cons _ _ (.cons _ _ (.cons _ _ .nil))))) fun b o e => Heap.get?_push_of_some _ (hk b o e)
  · show (fnS (topSt 10)).kind = .function
    cases q : (fnS (topSt 10)).kind <;> rw [q] at s1 <;> first | rfl | cases s1
end Mine
end
section
set_option autoImplicit false
set_option maxRecDepth 1000000
set_option linter.all false
namespace Mine
open PySem PySem.W PySem.Calls PyProof.Rows
variable {X : Fx}
theorem SEv.longComp {sums : Nat → Option Summ} (HX : XOk X sums) (H : KOk X) {p2 p3 p4 p5 p6 p7 p8 p9 : Pos} {sc : Scope} (g1 : sc.kind = .function) (g2 : ∀ y ∈ sc.names, y.2 ≠ .free) (g3 : ∀ y ∈ sc.names, y.2 ≠ .cell) (g4 : ∀ y ∈ sc.names, y.2 = .local → sc.names.lookup y.1 = some .local) (g5 : sc.names.lookup ("sign" : Str) = some .local) (g6 : sc.names.lookup ("_law_vowels" : Str) = some .globalImplicit)
    {σ : Sg} {x : Str} (hw : nameV X.wd σ "word" = some (.str x)) (hlen : x.length ≤ 1000) : SEv X (.ListComp (.Name "sign" p2) [⟨.Name "sign" p3, .Name "word" p4, [.Compare (.Name "sign" p5) [.In] [.Call (.Name "_law_vowels" p6) [] [] p7] p8], 0⟩] sc p9) σ (.lst (signs x)) σ.tel := by
  intro c C nw s Q E rl k
  refine wpAny_ListComp_walk pV (fun v y => y = v) g2 g3 g1 g4 g5 (SEv.name H hw c C nw s _ E rl fun nw1 y1 s1 e1 r1 v1 => ?_) (fun _ => rfl)
  cases v1 with
  | str _ t hx =>
  have hne : ∀ D, s1.heap.get? D = none → D ≠ X.D := fun D hD e => by
    obtain ⟨g, m', T, B, Dd, F, N, nd, hs1, l1, ks, es, n', _, _, _, _, hDD, _⟩ := r1
    rw [e, (N _ hDD).1] at hD
    cases hD
  have KI := r1.inK C
  obtain ⟨gh, m', T, B, Dd, F, N, nd, hs1, l1, tt⟩ := r1
  have Kg : X.K.In gh := C.kin.keeps B.stays
  have Tr : TopRead X.p X.loose X.mg X.mb gh := topRead_of (C.top.keeps B.stays)
  obtain ⟨yv, hyv, hvv⟩ := H.glob "_law_vowels" (.cst 377) (by rw [HX.wd]; rfl)
  have hyr : yv = .ref 377 := by
    have := hvv []
    cases this; rfl
  subst hyr
  refine wpAny_pyIter_str fun o St hW hSt => ⟨_, _, _, _, _, St, rfl, hW c.A C.hd, (by rw [sizeLine_eq]; show x.length ≤ _; omega), hSt, ?_, ⟨?_, ?_⟩, ?_⟩
  · intro b hb
    rw [List.mem_singleton] at hb
    rw [hb]
    show _ < (s1.heap.push o).objs.size
    rw [Heap.size_push]
    exact Nat.lt_succ_self _
  · intro Cc i v s3 m3 E' hP hns hm hk htk
    obtain ⟨cc, u, hc, rfl⟩ := hP
    have up : ∀ b ob, s1.heap.get? b = some ob → s3.heap.get? b = some ob := fun b ob e =>
      hk b ob (by rw [List.mem_singleton]; exact Nat.ne_of_lt (Heap.lt_size e)) (Heap.get?_push_of_some _ e)
    have K3 : X.K.In s3.heap := KI.keeps up
    have L3 : s3.heap.NoLimit := (Tr.nolimit.keeps F.keep).keeps up
    have G3 : s3.heap.Ns mainGlobals X.mg := (Tr.g.keeps F.keep).keeps up
    have dep := C.dep
    simp only [List.forIn_cons, List.forIn_nil, ↓reduceIte]
    refine wpAny_bind (wpAny_bind (wpAny_isTrue_Compare1 (wpAny_Name (wpAny_loadName_local (m := m3) g1 g5 hns hm ?_) (by decide)) rfl))
    refine Call_ (Calls.Name_function_global g1 g6 (Calls.loadGlobal_global (env := compEnv sc Cc c.env) G3 (mg_of Kg Tr.g hyv) ?_) (by decide))
    refine callWith_K0 K3 (H.keep 377 (by unfold isFun; rw [HX.wd]; rfl)) ?_
    refine vowels_call HX K3 L3 (by omega) fun l h' tk vs hl hvs hkk => ?_
    refine in_list_strs hl hvs (wpAny_truthy_bool (wpAny_pure (wpAny_pure ⟨rfl, h', tk, rfl, hkk⟩)))
  · intro Cc i v s3 m3 E' hP hpv hns hm hk htk
    exact wpAny_Name (wpAny_loadName_local (m := m3) g1 g5 hns hm ⟨rfl, s3.heap, s3.toks, rfl, fun _ _ e => e⟩) (by decide)
  · intro D h' tk ys vs hD hDl _ hlv hPv hPd hk2
    have hD1 : s1.heap.get? D = none := by
      cases q : s1.heap.get? D with
      | none => rfl
      | some o' => rw [Heap.get?_push_of_some _ q] at hD; cases hD
    have up : ∀ b ob, s1.heap.get? b = some ob → h'.get? b = some ob := fun b ob e =>
      hk2 b ob (by rw [List.mem_singleton]; exact Nat.ne_of_lt (Heap.lt_size e)) (Heap.get?_push_of_some _ e)
    obtain ⟨od, hod, hcd, nd', hdd⟩ := hDl
    have hgD : gh.get? D = none := by
      cases q : gh.get? D with
      | none => rfl
      | some o' => rw [F.keep _ _ q] at hD1; cases hD1
    obtain ⟨oL, q1, q2, hL, q3⟩ := F.ns
    have hDL : D ≠ c.L := fun e => by rw [e, hL] at hD1; cases hD1
    have hF : Fr gh c.L h' m' := ⟨⟨oL, q1, q2, up _ _ hL, q3⟩, fun b ob hb => up _ _ (F.keep b ob hb), F.above⟩
    have N' : News gh c.L h' ((D, od) :: nw1) := fun p hp => by
      rcases List.mem_cons.mp hp with rfl | hp
      · exact ⟨hod, hDL, hgD⟩
      · exact ⟨up _ _ (N p hp).1, (N p hp).2⟩
    have hnd : ∀ p ∈ nw1, p.1 ≠ D := fun p hp e => by
      rw [← e, (N p hp).1] at hD1; cases hD1
    have hsl : (signs x).length ≤ 1000 := by
      unfold signs
      rw [List.length_map]
      exact Nat.le_trans (List.length_filter_le _ _) hlen
    have hv : VR X ((D, od) :: nw1) (.lst (signs x)) (.ref D) := .lst _ D od ys nd' (.inl ⟨.head _, hne D hD1⟩) hcd hdd (signs_rel (by rw [hlv]; rfl) (fun j v hj => by
      obtain ⟨cc, u, h1, h2⟩ := hPv j v hj
      exact ⟨cc, u, by simpa using h1, h2⟩) hPd) hsl
    exact k _ _ _ (e1.trans .cons) (Rel.more (s' := { s1 with heap := h', toks := tk }) T B Dd hF N' nd hnd hs1 l1 tt) hv
end Mine
end
section
set_option autoImplicit false
set_option maxRecDepth 1000000
set_option linter.all false
namespace Mine
open PySem PySem.W PySem.Calls PyProof.Rows
variable {X : Fx}
theorem long_locs (x : Str) : ∃ l, putP (fnOfSt (topSt 20)).ps [.str x] (locs0 (fnOfSt (topSt 20)).scope) = some l ∧ lookV "word" l = some (.str x) := ⟨_, rfl, rfl⟩
theorem long_word : (fnOfSt (topSt 20)).scope.names.lookup ("word" : Str) = some .local := rfl
theorem long_len : (fnOfSt (topSt 20)).scope.names.lookup ("len" : Str) = some .globalImplicit := rfl
theorem long_call {sums : Nat → Option Summ} (HX : XOk X sums) {x : Str} (hx : x.length ≤ 1000) (t : Tel) (d : Nat) (hd : 2 ≤ d) : SCall X 433 [.str x] d t (.bool (longB x)) t := by
  have H := kok HX
  obtain ⟨d', rfl⟩ : ∃ d', d = d' + 1 := ⟨d - 1, by omega⟩
  obtain ⟨l, hl, hw⟩ := long_locs x
  obtain ⟨p1, p2, p3, p4, p5, p6, p7, p8, p9, p10, p11, p12, p13, k, sc, hb, g1, g2, g3, g4, g5, g6⟩ := long_body
  refine SCall.fn (F := fnOfSt (topSt 20)) ((kf_433 X.w.params).fn HX) hl (o := .ret (.bool (longB x))) (σ' := ⟨(fnOfSt (topSt 20)).scope, d', l, t⟩) ?_ (.inr rfl)
  have hbody : (fnOfSt (topSt 20)).body = _ := hb
  rw [hbody]
  have hn : nameV X.wd ⟨(fnOfSt (topSt 20)).scope, d', l, t⟩ "word" = some (.str x) := by
    unfold nameV
    rw [long_word]
    exact hw
  have hlen : nameV X.wd ⟨(fnOfSt (topSt 20)).scope, d', l, t⟩ "len" = some (.bi "len") := by
    unfold nameV
    rw [long_len, HX.wd]
    rfl
  obtain ⟨v, hv, hok⟩ := biV_ok (X := X) (n := "len") (args := [.lst (signs x)]) (k := some) (r := .int ((signs x).length : Int)) rfl
  obtain rfl := Option.some.inj hv
  exact SExs.stop (SStm.ret (SEv.cmp rfl (SEv.callB H rfl hlen (SEvs.cons rfl (SEv.longComp HX H g1 g2 g3 g4 g5 g6 hn hx) SEvs.nil) hok) (SEv.const rfl) (cmpV_ok (sets_ok HX) rfl))) (by nofun)
theorem long_sound {sums : Nat → Option Summ} (HX : XOk X sums) (R : Type) (args : List V) (t : Tel) (k : V → Tel → Option R) (r : R) (h : longSumm.f args t k = some r) : ∃ v t', k v t' = some r ∧ ∀ d, longSumm.dep ≤ d → SCall X 433 args d t v t' := by
  unfold longSumm at h
  dsimp only at h
  split at h
  · rename_i x
    split at h
    · rename_i hx
      exact ⟨_, t, h, fun d hd => long_call HX (Nat.le_of_ble_eq_true hx) t d hd⟩
    · cases h
  · cases h
end Mine
end
section
set_option autoImplicit false
set_option maxRecDepth 1000000
set_option linter.all false
namespace Mine
open PySem PySem.W PySem.Calls PyProof.Rows

noncomputable def lawRest : List Stmt := (fnB (topSt 25)).tail
theorem law_body : ∃ a1 a2 a3 a4, fnB (topSt 25) = .Assign [.Name "teller" a1] (.Call (.Name "IndonesianStemmer" a2) [] [] a3) a4 :: lawRest ∧ (fnS (topSt 25)).names.lookup ("IndonesianStemmer" : Str) = some .globalImplicit ∧ (fnS (topSt 25)).names.lookup ("teller" : Str) = some .local ∧ (fnS (topSt 25)).kind = .function := ⟨_, _, _, _, rfl, rfl, rfl, rfl⟩
noncomputable def tel0 : Tel := ⟨"", 0, 0, 0, 0, 0, 0, 0⟩
noncomputable def loc0 (ns : List Int) : List (Str × V) := [("script", .lst (ns.map .int)), ("teller", .self), ("start", .undef), ("part", .undef), ("openers", .undef), ("closers", .undef), ("signs", .undef), ("word", .undef)]
noncomputable def kLaw : Ks Bool := ⟨fun _ => none, fun v _ => match v with | .bool true => some true | _ => none, fun _ => none, fun _ => none, fun _ _ => none⟩
theorem ints_rel {X : Fx} {nw : List (Addr × Obj)} : ∀ {vs : List Value} {ns : List Int}, IntsAre vs ns → VRs X nw (ns.map .int) vs
  | _, _, .nil => .nil
  | _, _, .cons n t h => .cons _ _ _ _ (.int n t) (ints_rel h)
theorem es6_rel {es : List DictEntry} (h : Es6 es) : EsR f6 tel0.get es := by
  cases h
  exact .str _ _ _ _ _ _ _ _ rfl (by decide) (.int _ _ _ _ _ _ _ _ rfl (.int _ _ _ _ _ _ _ _ rfl (.int _ _ _ _ _ _ _ _ rfl (.int _ _ _ _ _ _ _ _ rfl (.int _ _ _ _ _ _ _ _ rfl (.nil _))))))
section
variable {w : World} {E : Value → Shared → Prop} {s : Shared} {h₀ : Heap} {L fa lst : Addr} {m : Str → Option Value} {cn : Str} {ccd : Value} {p : Program} {loose : List Str} {mean : ExcName → Option Value} {mg mb : Str → Option Value} {vs : List Value} {ns : List Int}
theorem law_goes {sm : Nat → Option Summ} (hsm : ∀ X : Fx, XOk X sm → SumsOk X) (hsd : ∀ a, (sm a).isSome = true → a ∈ fnAddrs) {N0 : Nat} (hpure : run (wdBase fnIn sm) N0 (.exs lawRest ⟨fnS (topSt 25), 12, loc0 ns, tel0⟩ kLaw) = some true)
    (F : Fr h₀ L s.heap m) (N : News h₀ L s.heap []) (B : Below callerA h₀ [] h₀) (T : Top p loose mean mg mb h₀) (KX : (KK w.params).In h₀) (hg : s.gens = #[])
    (hm : m "script" = some (.ref lst)) (hI : h₀.IsList lst vs.toArray) (hi : IntsAre vs ns) (hlen : ns.length ≤ 1000) {Q : Flow → Shared → Prop}
    (k : ∀ s', s'.gens = #[] → s'.os = s.os → (∀ b o, h₀.get? b = some o → s'.heap.get? b = some o) → Q (.ret (.bool true)) s') :
    wpAny (model pr w) (callerA.deeper (envOf cn (fnS (topSt 25)) L fa ccd)) (execs (fnB (topSt 25)) (envOf cn (fnS (topSt 25)) L fa ccd)) Q E s := by
  obtain ⟨a1, a2, a3, a4, hb, l1, l2, l3⟩ := law_body
  rw [hb]
  have Tr : TopRead p loose mg mb h₀ := topRead_of T
  obtain ⟨i1, i2, i3⟩ := kc_init w.params
  refine wpAny_execs_cons (wpAny_Assign_Name ?_ rfl)
  refine Call_ (name_K F KX Tr (kc_cls _) ?_ l3 l1)
  refine callWith_K0 (KX.keeps F.keep) (kc_keep _).2 (call_cls F KX N i3 i1 i2 fun x dx h' F' N' _ hlt => ?_)
  have hne : x ≠ dx := (Nat.ne_of_lt hlt).symm
  refine init_goes (A₀ := callerA) (base := h₀) (outer := []) (cn := cn) (cs := fnS (topSt 25)) (a := fa) (ccd := ccd) (L := L) (m := m) B F' KX T rfl l3 (by show callerA.depth + 1 + Code.weight (.builtin "type.__call__" ⟨.ref 342 :: ([] ++ []), []⟩) + 1 < recursionLimit; decide +kernel) N' hne fun h2 tk es n he F2 N2 => ⟨rfl, ?_⟩
  refine PyProof.Rows.stN F2 N2 (fun h3 F3 N3 => ?_) l3 l2
  obtain ⟨ol, hol, hlc, nl, hld⟩ := hI
  let X : Fx := ⟨w, KK w.params, wdBase fnIn sm, x, dx, 220, p, loose, mean, mg, mb, fun a o => (KK w.params).lookup a = some o ∨ (a = lst ∧ o = ol)⟩
  have HX : XOk X sm := ⟨rfl, rfl, rfl, fun a o h => .inl h, hsd⟩
  have HA : AllOk X := all_ok HX (hsm X HX)
  obtain ⟨o, σ', h1, h2'⟩ : ∃ o σ', kLaw.at o σ' = some true ∧ SExs X lawRest ⟨fnS (topSt 25), 12, loc0 ns, tel0⟩ o σ' := run_sound HA N0 (.exs lawRest ⟨fnS (topSt 25), 12, loc0 ns, tel0⟩ kLaw) true hpure
  let c : Cx := ⟨callerA, h₀, [], L, fa, cn, fnS (topSt 25), ccd, h₀, s.os⟩
  have C : CxOk X c 12 := ⟨KX, T, fun a o h => h.elim (fun h => KX a o h) (fun ⟨e1, e2⟩ => by rw [e1, e2]; exact hol), l3, rfl, by show callerA.depth + 1 + 12 < recursionLimit; decide +kernel, by show callerA.units + 3 + 8 * 12 + 8 < cLine; decide +kernel⟩
  have hdne : ∀ o, ((x, instObj 342 dx) : Addr × Obj) ∈ [(x, instObj 342 dx), (dx, o)] := fun o => .head _
  have rel : Rel X c [(x, instObj 342 dx), (dx, dictOf es n)] ⟨fnS (topSt 25), 12, loc0 ns, tel0⟩ { s with heap := h3, toks := tk + 1 } := by
    refine ⟨h₀, _, .refl, B, ktsDicts_nil, F3, N3, ?_, ⟨rfl, hg, rfl⟩, ?_, f6, es, n, by decide, es6_rel he, ?_, .head _, .tail _ (.head _), hne⟩
    · simp [hne]
    · intro z v hz
      unfold loc0 lookV at hz
      cases q1 : (z == ("script" : Str)) with
      | true =>
        rw [q1] at hz
        have hv : V.lst (ns.map .int) = v := Option.some.inj hz
        subst hv
        obtain rfl := eq_of_beq q1
        exact ⟨.ref lst, (if_neg (by decide)).trans hm, .lst _ lst ol vs.toArray nl (.inr (.inr ⟨rfl, rfl⟩)) hlc hld (by simpa using ints_rel hi) (by rw [List.length_map]; exact hlen)⟩
      | false =>
        rw [q1] at hz
        unfold lookV at hz
        cases q2 : (z == ("teller" : Str)) with
        | true =>
          rw [q2] at hz
          have hv : V.self = v := Option.some.inj hz
          subst hv
          exact ⟨.ref x, if_pos (eq_of_beq q2), .self⟩
        | false =>
          rw [q2] at hz
          exfalso
          revert hz
          have : ∀ (l : List Str), lookV z (l.map fun y => (y, V.undef)) = some v → False := fun l => by
            induction l with
            | nil => intro h; cases h
            | cons y r ih =>
              intro h
              rw [List.map_cons] at h
              unfold lookV at h
              cases q : (z == y) with
              | true => rw [q] at h; cases h
              | false => rw [q] at h; exact ih h
          exact this ["start", "part", "openers", "closers", "signs", "word"]
    · intro z hz hzk
      have : ∀ z ∈ fields, z ∉ f6 → z = ("I_measure" : Str) ∨ z = ("I_prefix" : Str) := by decide +kernel
      rcases this z hz hzk with rfl | rfl <;> rfl
  refine h2'.2 c C _ _ _ _ rel (fun nw' f s' _ r' hf => ?_) fun e he => ?_
  · obtain ⟨g, m2, TT, _, _, F', _, _, hs, _, _⟩ := r'
    have fin : ∀ v, kLaw.ret v σ' = some true → VR X nw' v (.bool true) ∨ True → v = .bool true := fun v hv _ => by
      show v = _
      unfold kLaw at hv
      dsimp only at hv
      split at hv
      · rfl
      · cases hv
    cases o with
    | ret v =>
      have hv := fin v h1 (.inr trivial)
      subst hv
      cases f <;> first | exact hf.elim | skip
      cases hf
      exact k s' hs.2.1 hs.2.2 fun b ob hb => F'.keep _ _ (TT.other b ob hb (fun h => by cases h))
    | next => cases h1
    | brk => cases h1
    | cont => cases h1
    | exc _ => cases h1
  · subst he
    cases h1
end
end Mine
end
section
set_option autoImplicit false
set_option maxRecDepth 100000
set_option linter.all false
namespace Mine
open PySem PySem.W PySem.Calls PyProof.Rows Builtin Builtin.Str

noncomputable def St (l : List Nat) : Str := ⟨l.toArray⟩
theorem St_of (x : Str) : x = St x.cps.toList := by cases x; rfl
theorem St_len (l : List Nat) : (St l).length = l.length := by show l.toArray.size = _; simp
theorem St_cps (l : List Nat) : (St l).cps.toList = l := rfl
theorem St_inj {a b : List Nat} (h : St a = St b) : a = b := by
  have := congrArg (fun x : Str => x.cps.toList) h
  exact this
theorem St_app (a b : List Nat) : St a ++ St b = St (a ++ b) := by
  show (⟨a.toArray ++ b.toArray⟩ : Str) = ⟨(a ++ b).toArray⟩
  simp
theorem starts_St (a b : List Nat) : Txt.startswith (St a) (St b) = b.isPrefixOf a := by
  unfold Txt.startswith
  rw [StrLaws.subAt_eq, St_len, St_len, St_cps, St_cps, List.drop_zero, Nat.zero_add]
  cases h : b.isPrefixOf a with
  | true =>
    obtain ⟨t, rfl⟩ := List.isPrefixOf_iff_prefix.mp h
    simp
  | false =>
    rw [Bool.and_eq_false_iff]
    by_cases hl : b.length ≤ a.length
    · right
      rw [beq_eq_false_iff_ne]
      intro e
      have : b <+: a := e ▸ List.take_prefix _ _
      rw [List.isPrefixOf_iff_prefix.mpr this] at h
      cases h
    · left; exact decide_eq_false hl
theorem ends_St (a b : List Nat) : Txt.endswith (St a) (St b) = b.isSuffixOf a := by
  unfold Txt.endswith
  rw [StrLaws.subAt_eq, St_len, St_len, St_cps, St_cps, Nat.zero_add]
  cases h : b.isSuffixOf a with
  | true =>
    obtain ⟨t, rfl⟩ := List.isSuffixOf_iff_suffix.mp h
    simp
  | false =>
    rw [Bool.and_eq_false_iff]
    by_cases hl : b.length ≤ a.length
    · right
      rw [beq_eq_false_iff_ne]
      intro e
      have hd : (a.drop (a.length - b.length)).length = b.length := by rw [List.length_drop]; omega
      rw [List.take_of_length_le (by omega)] at e
      have : b <:+ a := e ▸ List.drop_suffix _ _
      rw [List.isSuffixOf_iff_suffix.mpr this] at h
      cases h
    · left; exact decide_eq_false hl
theorem item_St (l : List Nat) (i : Nat) (h : i < l.length) : Txt.item (St l) (i : Int) = St [l[i]] := by
  unfold Txt.item Txt.charAt
  have e : seqIndex? (i : Int) (St l).length = some i := by
    have := seqIx (i := (i : Int)) (n := (St l).length) (by omega) (by rw [St_len]; omega)
    simpa using this
  rw [e]
  show (⟨#[((St l).cps[i]?).getD 0]⟩ : Str) = _
  have e2 : (St l).cps[i]? = some l[i] := by
    show l.toArray[i]? = _
    simp [h]
  rw [e2]; rfl
theorem slice_congr {x : Str} {a b c d : Option Int} (h : strSliceIndices a b 1 x.length = strSliceIndices c d 1 x.length) : Txt.slice x a b = Txt.slice x c d := by
  unfold Txt.slice
  rw [h]
theorem clip_min (i n : Nat) : max 0 (min (if (i : Int) < 0 then (i : Int) + (n : Int) else (i : Int)) (n : Int)) = ((min i n : Nat) : Int) := by
  rw [if_neg (Int.not_lt.mpr (Int.natCast_nonneg i))]
  omega
theorem ssi_ij (i j n : Nat) : strSliceIndices (some (i : Int)) (some (j : Int)) 1 n = sliceRange ((min i n : Nat) : Int) ((min j n : Nat) : Int) 1 :=
  (congr (congrArg sliceRange (clip_min i n)) (clip_min j n) ▸ rfl : _)
theorem ssi_i (i n : Nat) : strSliceIndices (some (i : Int)) none 1 n = sliceRange ((min i n : Nat) : Int) (n : Int) 1 :=
  (congrArg (fun a => sliceRange a (n : Int) 1) (clip_min i n) ▸ rfl : _)
theorem ssi_j (j n : Nat) : strSliceIndices none (some (j : Int)) 1 n = sliceRange 0 ((min j n : Nat) : Int) 1 :=
  (congrArg (fun a => sliceRange 0 a 1) (clip_min j n) ▸ rfl : _)
theorem slice_ij (l : List Nat) (i j : Nat) (h : i ≤ j) : Txt.slice (St l) (some (i : Int)) (some (j : Int)) = St ((l.drop i).take (j - i)) := by
  have e : Txt.slice (St l) (some (i : Int)) (some (j : Int)) = Txt.slice (St l) (some ((min i l.length : Nat) : Int)) (some ((min j l.length : Nat) : Int)) := by
    apply slice_congr
    rw [ssi_ij, ssi_ij, St_len, Nat.min_assoc, Nat.min_self, Nat.min_assoc, Nat.min_self]
  have hm : min i l.length ≤ min j l.length := by omega
  have hl : min j l.length ≤ l.length := Nat.min_le_right _ _
  rw [e]
  refine Eq.trans (show Txt.slice _ _ _ = StrLaws.sliceText _ _ _ from rfl) ((StrLaws.sliceText_plain (x := St l) ⟨Int.natCast_nonneg _, Int.ofNat_le.mpr hm, Int.ofNat_le.mpr hl⟩).trans ?_)
  show St _ = St _
  rw [St_cps, Int.toNat_natCast, show (((min j l.length : Nat) : Int) - ((min i l.length : Nat) : Int)).toNat = min j l.length - min i l.length by omega]
  congr 1
  by_cases hi : i ≤ l.length
  · rw [Nat.min_eq_left hi]
    by_cases hj : j ≤ l.length
    · rw [Nat.min_eq_left hj]
    · rw [Nat.min_eq_right (by omega), List.take_of_length_le (by rw [List.length_drop]; omega), List.take_of_length_le (by rw [List.length_drop]; omega)]
  · rw [List.drop_eq_nil_of_le (show l.length ≤ min i l.length by omega), List.drop_eq_nil_of_le (show l.length ≤ i by omega), List.take_nil, List.take_nil]
theorem slice_0j (l : List Nat) (j : Nat) : Txt.slice (St l) none (some (j : Int)) = St (l.take j) := by
  have := slice_ij l 0 j (Nat.zero_le _)
  rw [List.drop_zero, Nat.sub_zero] at this
  rw [← this]
  apply slice_congr
  rw [ssi_j, ssi_ij, Nat.zero_min]
  rfl
theorem slice_i (l : List Nat) (i : Nat) : Txt.slice (St l) (some (i : Int)) none = St (l.drop i) := by
  have := slice_ij l i (max i l.length) (Nat.le_max_left _ _)
  rw [List.take_of_length_le (show (l.drop i).length ≤ max i l.length - i by rw [List.length_drop]; omega)] at this
  rw [← this]
  apply slice_congr
  rw [ssi_i, ssi_ij, St_len, Nat.min_eq_right (Nat.le_max_right i l.length)]
end Mine
end
section
set_option autoImplicit false
set_option maxRecDepth 1000000
set_option linter.all false
namespace Mine
open PySem PySem.W PySem.Calls PyProof.Rows

/-! the walk's words do not ask the table of summaries -/
noncomputable abbrev Fx.wth (X : Fx) (W : Wd) : Fx := { X with wd := W }
mutual
theorem VR.wd1 {X : Fx} {W : Wd} {nw : List (Addr × Obj)} : ∀ {v : V} {y : Value}, VR X nw v y → VR (X.wth W) nw v y
  | _, _, .undef y => .undef y
  | _, _, .none => .none
  | _, _, .bool b => .bool b
  | _, _, .int i t => .int i t
  | _, _, .str x t h => .str x t h
  | _, _, .self => .self (X := X.wth W)
  | _, _, .cst a => .cst a
  | _, _, .bi n => .bi n
  | _, _, .ty n => .ty n
  | _, _, .am x i r a h => .am x i r a h
  | _, _, .rng a b c t u v l o h1 h2 h3 h4 => .rng a b c t u v l o h1 h2 h3 h4
  | _, _, .lst vs a o its n h1 h2 h3 h4 h5 => .lst vs a o its n h1 h2 h3 (VRs.wd1 h4) h5
  | _, _, .tup vs a o its n h1 h2 h3 h4 h5 => .tup vs a o its n h1 h2 h3 (VRs.wd1 h4) h5
theorem VRs.wd1 {X : Fx} {W : Wd} {nw : List (Addr × Obj)} : ∀ {vs : List V} {ys : List Value}, VRs X nw vs ys → VRs (X.wth W) nw vs ys
  | _, _, .nil => .nil
  | _, _, .cons v y vs ys h1 h2 => .cons v y vs ys (VR.wd1 h1) (VRs.wd1 h2)
end
theorem VR.wd2 {X : Fx} {W : Wd} {nw : List (Addr × Obj)} {v : V} {y : Value} (h : VR (X.wth W) nw v y) : VR X nw v y := VR.wd1 (X := X.wth W) (W := X.wd) h
theorem Rel.wd1 {X : Fx} {W : Wd} (hc : W.cls = X.wd.cls) {c : Cx} {nw : List (Addr × Obj)} {σ : Sg} {s : Shared} (h : Rel X c nw σ s) : Rel (X.wth W) c nw σ s := by
  obtain ⟨g, m, T, B, D, F, N, nd, hs, l, ks, es, n, a1, a2, a3, a4, a5, a6⟩ := h
  refine ⟨g, m, T, B, D, F, N, nd, hs, fun x v hx => ?_, ks, es, n, a1, a2, a3, ?_, a5, a6⟩
  · obtain ⟨y, h1, h2⟩ := l x v hx
    exact ⟨y, h1, h2.wd1⟩
  · show (X.T, (instObj W.cls X.D : Obj)) ∈ nw
    rw [hc]; exact a4
theorem CxOk.wd1 {X : Fx} {W : Wd} {c : Cx} {d : Nat} (C : CxOk X c d) : CxOk (X.wth W) c d := ⟨C.kin, C.top, C.hc, C.fn, C.hd, C.dep, C.un⟩
theorem SCall.wd2 {X : Fx} {W : Wd} (hc : W.cls = X.wd.cls) {a : Nat} {args : List V} {d : Nat} {t : Tel} {v : V} {t' : Tel} (h : SCall (X.wth W) a args d t v t') : SCall X a args d t v t' := by
  intro c C σ hd ht nw s ys Q E r va k
  refine h c C.wd1 σ hd ht nw s ys Q E (r.wd1 hc) va.wd1 fun nw' y s' e r' v' => k nw' y s' e ?_ v'.wd2
  exact Rel.wd1 (X := X.wth W) (W := X.wd) hc.symm r'

/-! summaries that say the answer outright -/
noncomputable def Dir (g : List V → Tel → Option (V × Tel)) (dep : Nat) : Summ := ⟨dep, fun args t k => match g args t with
  | some r => k r.1 r.2
  | none => none⟩
noncomputable abbrev wdS (sm : Nat → Option Summ) : Wd := wdBase fnIn sm
noncomputable def Does (sm : Nat → Option Summ) (N a : Nat) (g : List V → Tel → Option (V × Tel)) (dep : Nat) : Prop := ∀ args t r sc d loc, dep ≤ d → g args t = some r → run (wdS sm) N (.call a args ⟨sc, d, loc, t⟩ (fun v σ => some (v, σ.tel))) = some r
/-- a table of summaries that tells the truth -/
structure Lev (sm : Nat → Option Summ) : Prop where
  ok : ∀ X : Fx, XOk X sm → SumsOk X
  dom : ∀ a, (sm a).isSome = true → a ∈ fnAddrs
theorem Lev.call {sm : Nat → Option Summ} (L : Lev sm) {N a dep : Nat} {g : List V → Tel → Option (V × Tel)} (h : Does sm N a g dep) {X : Fx} {sm' : Nat → Option Summ} (HX : XOk X sm') {args : List V} {t : Tel} {r : V × Tel} (hr : g args t = some r) (d : Nat) (hd : dep ≤ d) : SCall X a args d t r.1 r.2 := by
  have HX' : XOk (X.wth (wdS sm)) sm := ⟨HX.k, rfl, HX.ca, HX.hc, L.dom⟩
  have HA : AllOk (X.wth (wdS sm)) := all_ok HX' (L.ok _ HX')
  have hrun := h args t r default d [] hd hr
  obtain ⟨v, t', h1, h2, _⟩ : ∃ v t', some (v, t') = some r ∧ SCall (X.wth (wdS sm)) a args d t v t' ∧ _ := run_sound HA N (.call a args ⟨default, d, [], t⟩ (fun v σ => some (v, σ.tel))) r hrun
  obtain rfl := Option.some.inj h1
  exact h2.wd2 (by rw [HX.wd]; rfl)
theorem lv0 : Lev sums := by
  refine ⟨fun X HX b S hS R args t k r hr => ?_, fun b hb => ?_⟩
  · have hs : X.wd.sums = sums := by rw [HX.wd]; rfl
    rw [hs] at hS
    unfold sums at hS
    by_cases hb : b = 433
    · subst hb
      rw [if_pos rfl] at hS
      obtain rfl := Option.some.inj hS
      exact long_sound HX R args t k r hr
    · rw [if_neg hb] at hS; cases hS
  · unfold sums at hb
    by_cases hb' : b = 433
    · rw [hb']; decide +kernel
    · rw [if_neg hb'] at hb; cases hb
end Mine
end
section
set_option autoImplicit false
set_option maxRecDepth 1000000
set_option linter.all false
namespace Mine
open PySem PySem.W PySem.Calls PyProof.Rows

/-! summaries that are the runs themselves -/
theorem CxOk.less {X : Fx} {c : Cx} {d d' : Nat} (h : d ≤ d') (C : CxOk X c d') : CxOk X c d := by
  have h1 := C.dep
  have h2 := C.un
  exact ⟨C.kin, C.top, C.hc, C.fn, C.hd, by omega, by omega⟩
theorem Rel.setD {X : Fx} {c : Cx} {nw : List (Addr × Obj)} {σ : Sg} {s : Shared} (d : Nat) (r : Rel X c nw σ s) : Rel X c nw { σ with d := d } s := by
  obtain ⟨g, m, T, B, D, F, N, nd, hs, l, t⟩ := r
  exact ⟨g, m, T, B, D, F, N, nd, hs, l, t⟩
theorem SCall.more {X : Fx} {a : Nat} {args : List V} {d d' : Nat} {t : Tel} {v : V} {t' : Tel} (hd : d ≤ d') (h : SCall X a args d t v t') : SCall X a args d' t v t' := by
  intro c C σ h1 h2 nw s ys Q E r va k
  exact h c (C.less hd) { σ with d := d } rfl h2 nw s ys Q E (r.setD d) va fun nw' y s' e r' v' => k nw' y s' e (r'.setD σ.d) v'
noncomputable abbrev Gf := List V → Tel → Option (V × Tel)
noncomputable def kT : V → Sg → Option (V × Tel) := fun v σ => some (v, σ.tel)
noncomputable def gR (sm : Nat → Option Summ) (N a D : Nat) : Gf := fun args t => run (wdS sm) N (.call a args ⟨default, D, [], t⟩ kT)
/-- a table of direct summaries -/
noncomputable def smG (dom : List (Nat × Nat)) (G : Nat → Gf) : Nat → Option Summ := fun b => match dom.lookup b with
  | some dep => some (Dir (G b) dep)
  | none => if b = 433 then some longSumm else none
theorem Lev.callR {sm : Nat → Option Summ} (L : Lev sm) {N a D : Nat} {X : Fx} {sm' : Nat → Option Summ} (HX : XOk X sm') {args : List V} {t : Tel} {r : V × Tel} (hr : gR sm N a D args t = some r) (d : Nat) (hd : D ≤ d) : SCall X a args d t r.1 r.2 := by
  have HX' : XOk (X.wth (wdS sm)) sm := ⟨HX.k, rfl, HX.ca, HX.hc, L.dom⟩
  have HA : AllOk (X.wth (wdS sm)) := all_ok HX' (L.ok _ HX')
  obtain ⟨v, t', h1, h2, _⟩ : ∃ v t', some (v, t') = some r ∧ SCall (X.wth (wdS sm)) a args D t v t' ∧ _ := run_sound HA N (.call a args ⟨default, D, [], t⟩ kT) r hr
  obtain rfl := Option.some.inj h1
  exact (h2.wd2 (by rw [HX.wd]; rfl)).more hd
theorem Lev.addR {sm sm' : Nat → Option Summ} (L : Lev sm) (h : ∀ b S, sm' b = some S → sm b = some S ∨ ∃ N D, S = Dir (gR sm N b D) D ∧ b ∈ fnAddrs) : Lev sm' := by
  refine ⟨fun X HX b S hS R args t k r hr => ?_, fun b hb => ?_⟩
  · have hs : X.wd.sums = sm' := by rw [HX.wd]; rfl
    rw [hs] at hS
    rcases h b S hS with q | ⟨N, D, rfl, hm⟩
    · have HX' : XOk (X.wth (wdS sm)) sm := ⟨HX.k, rfl, HX.ca, HX.hc, L.dom⟩
      obtain ⟨v, t', h1, h2⟩ := L.ok _ HX' b S q R args t k r hr
      exact ⟨v, t', h1, fun d hd => (h2 d hd).wd2 (by rw [HX.wd]; rfl)⟩
    · have hr : (match gR sm N b D args t with | some r => k r.1 r.2 | none => none) = some r := hr
      cases q : gR sm N b D args t with
      | none => rw [q] at hr; cases hr
      | some p =>
        rw [q] at hr
        exact ⟨p.1, p.2, hr, fun d hdd => L.callR HX q d hdd⟩
  · obtain ⟨S, hS⟩ := Option.isSome_iff_exists.mp hb
    rcases h b S hS with q | ⟨N, D, _, hm⟩
    · exact L.dom b (by rw [q]; rfl)
    · exact hm
end Mine
end
section
set_option autoImplicit false
set_option maxRecDepth 1000000
set_option linter.all false
namespace Mine
open PySem PySem.W PySem.Calls PyProof.Rows
noncomputable def dom1 : List (Nat × Nat) := [(98, 1), (140, 1), (133, 1)]
section
variable (G : Nat → Gf) (cur s : Str) (c l lb b kt m p : Int)
noncomputable def N154 : Nat := 60
theorem s154 : gR (smG dom1 G) 60 154 3 [.self, .str s] ⟨cur, c, l, lb, b, kt, m, p⟩ =
  (match decide (0 ≤ b) with
  | true => (match decide (b ≤ kt) with
    | true => (match decide (kt ≤ l) with
      | true => (match decide (l ≤ (cur.length : Int)) with
        | true => (match Nat.ble ((Txt.slice cur (some 0) (some b)).length + s.length) 1000000 with
          | true => (match Nat.ble ((Txt.slice cur (some 0) (some b) ++ s).length + (Txt.slice cur (some kt) none).length) 1000000 with
            | true => (match decide (kt ≤ c) with
              | true => some (.none, ⟨Txt.slice cur (some 0) (some b) ++ s ++ Txt.slice cur (some kt) none, c + ((s.length : Int) - (kt - b)), l + ((s.length : Int) - (kt - b)), lb, b, b + (s.length : Int), m, p⟩)
              | false => (match decide (b < c) with
                | true => some (.none, ⟨Txt.slice cur (some 0) (some b) ++ s ++ Txt.slice cur (some kt) none, b, l + ((s.length : Int) - (kt - b)), lb, b, b + (s.length : Int), m, p⟩)
                | false => some (.none, ⟨Txt.slice cur (some 0) (some b) ++ s ++ Txt.slice cur (some kt) none, c, l + ((s.length : Int) - (kt - b)), lb, b, b + (s.length : Int), m, p⟩)))
            | false => none)
          | false => none)
        | false => none)
      | false => none)
    | false => none)
  | false => none) := by kernel_rfl
theorem s63 : gR (smG dom1 G) 60 63 1 [.self, .cst 232] ⟨cur, c, l, lb, b, kt, m, p⟩ =
  (match decide (l ≤ c) with
  | true => some (.bool false, ⟨cur, c, l, lb, b, kt, m, p⟩)
  | false => (match decide (0 ≤ c) with
    | true => (match decide (c < (cur.length : Int)) with
      | true => (match !(vl.any (· == Txt.item cur c)) with
        | true => some (.bool false, ⟨cur, c, l, lb, b, kt, m, p⟩)
        | false => some (.bool true, ⟨cur, c + 1, l, lb, b, kt, m, p⟩))
      | false => none)
    | false => none)) := by kernel_rfl
theorem s91 : gR (smG dom1 G) 60 91 1 [.self, .cst 232] ⟨cur, c, l, lb, b, kt, m, p⟩ =
  (match decide (l ≤ c) with
  | true => some (.bool false, ⟨cur, c, l, lb, b, kt, m, p⟩)
  | false => (match decide (0 ≤ c) with
    | true => (match decide (c < (cur.length : Int)) with
      | true => (match !(vl.any (· == Txt.item cur c)) with
        | true => some (.bool true, ⟨cur, c + 1, l, lb, b, kt, m, p⟩)
        | false => some (.bool false, ⟨cur, c, l, lb, b, kt, m, p⟩))
      | false => none)
    | false => none)) := by kernel_rfl
theorem s119 : gR (smG dom1 G) 60 119 1 [.self, .str s] ⟨cur, c, l, lb, b, kt, m, p⟩ =
  (match Txt.startswith (Txt.slice cur (some c) (some l)) s with
  | true => some (.bool true, ⟨cur, c + (s.length : Int), l, lb, b, kt, m, p⟩)
  | false => some (.bool false, ⟨cur, c, l, lb, b, kt, m, p⟩)) := by kernel_rfl
end
end Mine
end
section
set_option autoImplicit false
set_option maxRecDepth 1000000
set_option linter.all false
namespace Mine
open PySem PySem.W PySem.Calls PyProof.Rows
noncomputable def dom2 : List (Nat × Nat) := [(154, 3), (63, 1), (91, 1), (119, 1), (98, 1), (140, 1), (133, 1)]
section
variable {R : Type} (G : Nat → Gf)
noncomputable abbrev W2 : Wd := wdS (smG dom2 G)
/-- an answer of a summary -/
noncomputable def onG (o : Option (V × Tel)) (k : V → Tel → Option R) : Option R := match o with
  | some r => k r.1 r.2
  | none => none
noncomputable def isI (W : Wd) (v : V) (n : Int) (f g : Option R) : Option R := match cmpV W .Eq v (.int n) with
  | some c => (match c with
    | true => f
    | false => g)
  | none => none
/-- a name's value, read -/
noncomputable def isL (W : Wd) (v : V) (n : Int) (f g : Option R) : Option R := match (match v with | .undef => none | v => some v : Option V) with
  | some v => isI W v n f g
  | none => none
noncomputable def isT (v : V) (f g : Option R) : Option R := match v with
  | .bool c => (match !c with
    | true => g
    | false => f)
  | _ => none
noncomputable def itm (t : Tel) (i : Int) (k : Str → Option R) : Option R := match decide (0 ≤ i) with
  | true => (match decide (i < (t.cur.length : Int)) with
    | true => k (Txt.item t.cur i)
    | false => none)
  | false => none
/-- the piece between bra and ket goes for s -/
noncomputable def putS (s : Str) (t : Tel) (k : Tel → Option R) : Option R := onG (G 154 [.self, .str s] t) fun _ t => k t
noncomputable def del (t : Tel) : Option (V × Tel) := putS G "" t fun t => some (.bool true, { t with meas := t.meas - 1 })
variable (cur : Str) (c l lb b kt m p : Int)
theorem s239 : gR (smG dom2 G) 60 239 5 [.self] ⟨cur, c, l, lb, b, kt, m, p⟩ =
  onG (G 140 [.self, tab a0] ⟨cur, c, l, lb, b, c, m, p⟩) fun v t => isI (W2 G) v 0 (some (.bool false, t)) (del G { t with bra := t.cursor }) := by kernel_rfl
theorem s246 : gR (smG dom2 G) 60 246 5 [.self] ⟨cur, c, l, lb, b, kt, m, p⟩ =
  onG (G 140 [.self, tab a1] ⟨cur, c, l, lb, b, c, m, p⟩) fun v t => isI (W2 G) v 0 (some (.bool false, t)) (del G { t with bra := t.cursor }) := by kernel_rfl
/-- the sign ahead of the cursor is x -/
noncomputable def behind (x : Str) (t : Tel) (no yes : Option R) : Option R := match decide (t.cursor ≤ t.lb) with
  | true => no
  | false => itm t (t.cursor - 1) fun y => match !(y == x) with
    | true => no
    | false => yes
noncomputable def sufA (t : Tel) : Option (V × Tel) :=
  let no : Option (V × Tel) := match decide (t.pre = 1) with
    | true => some (.bool false, { t with cursor := t.limit - (t.limit - t.cursor) })
    | false => del G { t with cursor := t.limit - (t.limit - t.cursor) }
  match decide (t.pre = 3) with
  | true => no
  | false => (match decide (t.pre = 2) with
    | true => no
    | false => behind "k" t no (del G { t with cursor := t.cursor - 1, bra := t.cursor - 1 }))
noncomputable def sufB (t : Tel) : Option (V × Tel) := match decide (2 < t.pre) with
  | true => some (.bool false, t)
  | false => behind "s" t (del G t) (some (.bool false, { t with cursor := t.cursor - 1 }))
noncomputable def k253 (v : V) (t : Tel) : Option (V × Tel) := isL (W2 G) v 0 (some (.bool false, t))
    (isL (W2 G) v 1 (sufA G { t with bra := t.cursor }) (sufB G { t with bra := t.cursor }))
theorem s253 : gR (smG dom2 G) 60 253 5 [.self] ⟨cur, c, l, lb, b, kt, m, p⟩ = onG (G 140 [.self, tab a2] ⟨cur, c, l, lb, b, c, m, p⟩) (k253 G) := by kernel_rfl
/-- the sign at the cursor is x -/
noncomputable def ahead (x : Str) (t : Tel) (no yes : Option R) : Option R := match decide (t.cursor = t.limit) with
  | true => no
  | false => itm t t.cursor fun y => match !(y == x) with
    | true => no
    | false => yes
noncomputable def tookP (q : Int) (t : Tel) : Option (V × Tel) := some (.bool true, { t with pre := q, meas := t.meas - 1 })
noncomputable def firA (q : Int) (t : Tel) : Option (V × Tel) := putS G "" t (tookP q)
noncomputable def firB (q : Int) (t : Tel) : Option (V × Tel) :=
  ahead "y" t (firA G q t)
    (onG (G 63 [.self, .cst 232] { t with cursor := t.cursor + 1 }) fun v u => isT v
      (putS G "s" { u with cursor := t.cursor + 1, ket := t.cursor + 1 } (tookP q))
      (firA G q { u with cursor := t.cursor }))
noncomputable def firC (q : Int) (t : Tel) : Option (V × Tel) :=
  onG (G 63 [.self, .cst 232] { t with pre := q, meas := t.meas - 1 }) fun v u => isT v
    (putS G "p" { u with cursor := t.cursor } fun t => some (.bool true, t))
    (putS G "" { u with cursor := t.cursor } fun t => some (.bool true, t))
noncomputable def k260 (v : V) (t : Tel) : Option (V × Tel) := isL (W2 G) v 0 (some (.bool false, t))
    (isL (W2 G) v 1 (firA G 1 { t with ket := t.cursor })
    (isL (W2 G) v 2 (firB G 1 { t with ket := t.cursor })
    (isL (W2 G) v 3 (firA G 3 { t with ket := t.cursor })
    (isL (W2 G) v 4 (firB G 3 { t with ket := t.cursor })
    (isL (W2 G) v 5 (firC G 1 { t with ket := t.cursor }) (firC G 3 { t with ket := t.cursor }))))))
theorem s260 : gR (smG dom2 G) 60 260 5 [.self] ⟨cur, c, l, lb, b, kt, m, p⟩ = onG (G 133 [.self, tab a3] ⟨cur, c, l, lb, c, kt, m, p⟩) (k260 G) := by kernel_rfl
noncomputable def secE (t : Tel) : Option (V × Tel) := putS G "" { t with meas := t.meas - 1 } fun t => some (.bool true, t)
noncomputable def secL (t : Tel) (no : Tel → Option (V × Tel)) (yes : Tel → Option (V × Tel)) : Option (V × Tel) :=
  ahead "l" t (no t) (onG (G 119 [.self, .str "ajar"] { t with cursor := t.cursor + 1, ket := t.cursor + 1 }) fun v u => isT v (yes u) (no { u with cursor := t.cursor }))
noncomputable def secA (t : Tel) : Option (V × Tel) :=
  ahead "r" t (secL G t (fun u => secE G { u with cursor := t.cursor, ket := t.cursor, pre := 2 }) (secE G)) (secE G { t with cursor := t.cursor + 1, ket := t.cursor + 1, pre := 2 })
noncomputable def secB (t : Tel) : Option (V × Tel) :=
  ahead "r" t (secL G t (fun u => onG (G 91 [.self, .cst 232] { u with cursor := t.cursor, ket := t.cursor }) fun v x => isT v
      (onG (G 119 [.self, .str "er"] x) fun v y => isT v (secE G { y with pre := 4 }) (some (.bool false, y))) (some (.bool false, x)))
    (fun u => secE G { u with pre := 4 })) (secE G { t with cursor := t.cursor + 1, ket := t.cursor + 1, pre := 4 })
noncomputable def k267 (v : V) (t : Tel) : Option (V × Tel) := isL (W2 G) v 0 (some (.bool false, t)) (isL (W2 G) v 1 (secA G t) (secB G t))
theorem s267 : gR (smG dom2 G) 60 267 5 [.self] ⟨cur, c, l, lb, b, kt, m, p⟩ = onG (G 133 [.self, tab a4] ⟨cur, c, l, lb, c, kt, m, p⟩) (k267 G) := by kernel_rfl
end
end Mine
end
section
set_option autoImplicit false
set_option maxRecDepth 1000000
set_option linter.all false
namespace Mine
open PySem PySem.W PySem.Calls PyProof.Rows
noncomputable def dom3 : List (Nat × Nat) := (239, 5) :: (246, 5) :: (253, 5) :: (260, 5) :: (267, 5) :: dom2
noncomputable def dom4 : List (Nat × Nat) := (274, 6) :: dom3
noncomputable def b274 : List Stmt := fnB (mSt 6 8)
noncomputable def tryB : List Stmt → List Stmt
  | .Try b _ _ _ _ :: _ => b
  | _ => []
noncomputable def whlB : List Stmt → Expr × List Stmt
  | .While t b _ _ :: _ => (t, b)
  | _ => (.Name "" default, [])
noncomputable def w274 : Expr × List Stmt := whlB (tryB (b274.drop 2))
noncomputable def l274 (v1 v2 : V) : List (Str × V) := [("self", .self), ("v_1", v1), ("v_2", v2), ("v_3", .undef), ("v_4", .undef), ("v_5", .undef), ("v_6", .undef), ("v_7", .undef), ("v_8", .undef), ("v_9", .undef), ("v_10", .undef)]
noncomputable def kB : Ks (V × Tel) := { noneAll (V × Tel) with next := fun σ' => some (.none, σ'.tel), ret := fun v σ' => some (v, σ'.tel) }
section
variable (G : Nat → Gf) 
noncomputable abbrev W3 : Wd := wdS (smG dom3 G)
variable (n : Nat)
noncomputable def aft (σ : Sg) : Option (V × Tel) := run (W3 G) (n + 2) (.exs (b274.drop 3) σ kB)
noncomputable def kY : Ks (V × Tel) := { kB with next := aft G n, exc := fun c' σ => match 354 == c' with | true => aft G n σ | false => none }
noncomputable def kW : Ks (V × Tel) := { kY G n with next := fun σ => run (W3 G) (n + 1) (.exs [] σ (kY G n)), exc := fun _ _ => none }
theorem kW_next (σ : Sg) : (kW G n).next σ = aft G n σ := by kernel_rfl
variable (cur : Str) (c l lb b kt m p : Int) (K : Ks (V × Tel)) (x y : V)
theorem s274a : gR (smG dom3 G) (n + 6) 274 6 [.self] ⟨cur, c, l, lb, b, kt, m, p⟩ = run (W3 G) (n + 1) (.whl w274.1 w274.2 ⟨fnS (mSt 6 8), 5, l274 (.int c) .undef, ⟨cur, c, l, lb, b, kt, 0, p⟩⟩ (kW G n)) := by kernel_rfl
theorem s274b : run (W3 G) (n + 10) (.whl w274.1 w274.2 ⟨fnS (mSt 6 8), 5, l274 x y, ⟨cur, c, l, lb, b, kt, m, p⟩⟩ K) =
  onG (G 98 [.self, .cst 232] ⟨cur, c, l, lb, b, kt, m, p⟩) fun v u => isT v
    (run (W3 G) (n + 9) (.whl w274.1 w274.2 ⟨fnS (mSt 6 8), 5, l274 x (.int c), { u with cursor := u.cursor + 1, meas := u.meas + 1 }⟩ K))
    (K.next ⟨fnS (mSt 6 8), 5, l274 x (.int c), { u with cursor := c }⟩) := by kernel_rfl
noncomputable def endS (t : Tel) (c : Int) : Option (V × Tel) := some (.bool true, { t with cursor := c })
noncomputable def few (t : Tel) (yes no : Option (V × Tel)) : Option (V × Tel) := match decide (t.meas ≤ 2) with
  | true => yes
  | false => no
noncomputable def stemC (t : Tel) : Option (V × Tel) :=
  onG (G 260 [.self] t) fun v u => isT v
    (few u (endS u t.cursor) (onG (G 253 [.self] { u with lb := u.cursor, cursor := u.limit }) fun v w => isT v
      (few w (endS w t.cursor) (onG (G 267 [.self] { w with cursor := u.cursor }) fun v x => isT v (endS x t.cursor) (endS x t.cursor)))
      (endS w t.cursor)))
    (onG (G 267 [.self] { u with cursor := t.cursor }) fun _ x =>
      few x (endS x t.cursor) (onG (G 253 [.self] { x with lb := t.cursor, cursor := x.limit }) fun v y => isT v (endS y t.cursor) (endS y t.cursor)))
noncomputable def stemB (t : Tel) : Option (V × Tel) :=
  onG (G 246 [.self] t) fun _ w => few w (some (.bool false, { w with cursor := w.lb })) (stemC G { w with cursor := w.lb })
noncomputable def stemA (t : Tel) : Option (V × Tel) :=
  onG (G 239 [.self] t) fun _ u => few u (some (.bool false, { u with cursor := u.limit - (t.limit - t.cursor) })) (stemB G { u with cursor := u.limit - (t.limit - t.cursor) })
variable (e : Int)
theorem s274c : aft G (n + 40) ⟨fnS (mSt 6 8), 5, l274 (.int c) x, ⟨cur, e, l, lb, b, kt, m, p⟩⟩ = 
  few ⟨cur, c, l, lb, b, kt, m, p⟩ (some (.bool false, ⟨cur, c, l, lb, b, kt, m, p⟩)) (stemA G ⟨cur, l, l, c, b, kt, m, 0⟩) := by kernel_rfl
variable (w : Str)
noncomputable abbrev W4 : Wd := wdS (smG dom4 G)
theorem s189 : gR (smG dom4 G) 60 189 7 [.self, .str w] ⟨cur, c, l, lb, b, kt, m, p⟩ = onG (G 274 [.self] ⟨w, 0, w.length, 0, 0, w.length, m, p⟩) fun _ u => some (.str u.cur, u) := by kernel_rfl
end
end Mine
end
section
set_option autoImplicit false
set_option maxRecDepth 1000000
set_option linter.all false
namespace Mine
open PySem PySem.W PySem.Calls PyProof.Rows
/-! summaries in cases -/
noncomputable def smC (C : List (Nat × Summ)) (base : Nat → Option Summ) : Nat → Option Summ := fun b => match C.lookup b with
  | some S => some S
  | none => base b
theorem lookup_mem {α : Type 1} {b : Nat} {S : α} : ∀ {C : List (Nat × α)}, C.lookup b = some S → (b, S) ∈ C
  | (x, y) :: r, h => by
    rw [List.lookup_cons] at h
    cases q : (b == x) with
    | true =>
      rw [q] at h
      obtain rfl := eq_of_beq q
      obtain rfl := Option.some.inj h
      exact .head _
    | false =>
      rw [q] at h
      exact .tail _ (lookup_mem h)
theorem Lev.addC {sm : Nat → Option Summ} (L : Lev sm) (C : List (Nat × Summ)) (h : ∀ q ∈ C, q.1 ∈ fnAddrs ∧ ∃ sm N, Lev sm ∧ ∀ (R : Type) (args : List V) (t : Tel) (k : V → Tel → Option R) (r : R), q.2.f args t k = some r → ∃ v t', gR sm N q.1 q.2.dep args t = some (v, t') ∧ k v t' = some r) : Lev (smC C sm) := by
  refine ⟨fun X HX b S hS R args t k r hr => ?_, fun b hb => ?_⟩
  · have hs : X.wd.sums = smC C sm := by rw [HX.wd]; rfl
    rw [hs] at hS
    unfold smC at hS
    cases q : C.lookup b with
    | none =>
      rw [q] at hS
      have HX' : XOk (X.wth (wdS sm)) sm := ⟨HX.k, rfl, HX.ca, HX.hc, L.dom⟩
      obtain ⟨v, t', h1, h2⟩ := L.ok _ HX' b S hS R args t k r hr
      exact ⟨v, t', h1, fun d hd => (h2 d hd).wd2 (by rw [HX.wd]; rfl)⟩
    | some S' =>
      rw [q] at hS
      obtain rfl := Option.some.inj hS
      obtain ⟨sm0, N, L0, hN⟩ := (h _ (lookup_mem q)).2
      obtain ⟨v, t', h1, h2⟩ := hN R args t k r hr
      exact ⟨v, t', h2, fun d hd => L0.callR HX h1 d hd⟩
  · unfold smC at hb
    cases q : C.lookup b with
    | none => rw [q] at hb; exact L.dom b hb
    | some S => exact (h _ (lookup_mem q)).1
section
variable (sm : Nat → Option Summ) (w : Str) (t : Tel)
noncomputable def lessP (w : Str) : List (Str × Int) → Str
  | [] => w
  | (e, g) :: r => match Txt.endswith w e with
    | true => Txt.slice w none (some ((w.length : Int) - g))
    | false => lessP w r
noncomputable def prsV (l : List (Str × Int)) : V := .lst (l.map fun x => .tup [.str x.1, .int x.2])
variable (e1 e2 e3 e4 : Str) (g1 g2 g3 g4 : Int)
noncomputable def rL (w : Str) (t : Tel) (e : Str) (g : Int) (o : Option (V × Tel)) : Option (V × Tel) := match Txt.endswith w e with
  | true => some (.str (Txt.slice w none (some ((w.length : Int) - g))), t)
  | false => o
noncomputable def smN : Nat → Option Summ := fun _ => none
theorem s440_1 : gR smN 60 440 1 [.str w, prsV [(e1, g1)]] t = rL w t e1 g1 (some (.str w, t)) := by kernel_rfl
theorem s440_2 : gR smN 60 440 1 [.str w, prsV [(e1, g1), (e2, g2)]] t = rL w t e1 g1 (rL w t e2 g2 (some (.str w, t))) := by kernel_rfl
theorem s440_3 : gR smN 60 440 1 [.str w, prsV [(e1, g1), (e2, g2), (e3, g3)]] t = rL w t e1 g1 (rL w t e2 g2 (rL w t e3 g3 (some (.str w, t)))) := by kernel_rfl
theorem s440_4 : gR smN 60 440 1 [.str w, prsV [(e1, g1), (e2, g2), (e3, g3), (e4, g4)]] t = rL w t e1 g1 (rL w t e2 g2 (rL w t e3 g3 (rL w t e4 g4 (some (.str w, t))))) := by kernel_rfl
noncomputable def rF (w : Str) (t : Tel) (b : Str) (n : Int) (kd : Str) (o : Option (V × Tel)) : Option (V × Tel) := match Txt.startswith w b with
  | true => some (.tup [.str "", .str (Txt.slice w (some n) none), .str kd], t)
  | false => o
noncomputable def fstN : Option (V × Tel) := rF w t "di" 2 "di" (rF w t "ter" 3 "di" (rF w t "me" 2 "di" (rF w t "ke" 2 "ke" (some (.tup [.str "", .str w, .str ""], t)))))
noncomputable def retK (hd lost rest : Str) (t : Tel) : Option (V × Tel) := match hd == ("me" : Str) with
  | true => some (.tup [.str lost, .str rest, .str "di"], t)
  | false => some (.tup [.str lost, .str rest, .str "ke"], t)
noncomputable def rS (hd tail : Str) (t : Tel) (s : Str) (n : Int) (lost : Str) (ah : Bool) (o : Option (V × Tel)) : Option (V × Tel) := match Txt.startswith tail s with
  | true => (match ah with
    | false => retK hd lost (Txt.slice tail (some n) none) t
    | true => (match vl.any (· == Txt.slice (Txt.slice tail (some n) none) none (some 1)) with
      | true => retK hd lost (Txt.slice tail (some n) none) t
      | false => o))
  | false => o
theorem s447 : gR smN 60 447 2 [.str w] t =
  (match (["me", "pe"] : List Str).any (· == Txt.slice w none (some 2)) with
  | true =>
    let hd := Txt.slice w none (some 2)
    let tl := Txt.slice w (some 2) none
    rS hd tl t "ng" 2 "" false (rS hd tl t "ny" 2 "s" true (rS hd tl t "n" 1 "" false (rS hd tl t "m" 1 "p" true (rS hd tl t "m" 1 "" false (fstN w t)))))
  | false => fstN w t) := by kernel_rfl
noncomputable def rD (w : Str) (t : Tel) (b : Str) (n : Int) (kd : Str) (o : Option (V × Tel)) : Option (V × Tel) := match Txt.startswith w b with
  | true => some (.tup [.str (Txt.slice w (some n) none), .str kd], t)
  | false => o
noncomputable def rB (a b c : Bool) (yes no : Option (V × Tel)) : Option (V × Tel) := match a with
  | true => (match b with
    | true => (match c with
      | true => yes
      | false => no)
    | false => no)
  | false => no
theorem s454 : gR smN 60 454 2 [.str w] t =
  rD w t "ber" 3 "ber" (rD w t "belajar" 3 "ber" (rD w t "per" 3 "per" (rD w t "pelajar" 3 "" (rD w t "pe" 2 "per"
    (rB (Txt.startswith w "be") (!(vl.any (· == Txt.slice w (some 2) (some 3)))) (Txt.slice w (some 3) (some 5) == ("er" : Str)) (some (.tup [.str (Txt.slice w (some 2) none), .str "ber"], t)) (some (.tup [.str w, .str ""], t))))))) := by kernel_rfl
end
end Mine
end
section
set_option autoImplicit false
set_option maxRecDepth 1000000
set_option linter.all false
namespace Mine
open PySem PySem.W PySem.Calls PyProof.Rows
noncomputable def S189 (f : Str → Str) (F : Str → Tel → Tel) : Summ := ⟨7, fun args t k => match args with
  | [.self, .str w] => (match Nat.ble w.length 900 with
    | true => k (.str (f w)) (F w t)
    | false => none)
  | _ => none⟩
noncomputable def S461 (f : Str → Str) : Summ := ⟨3, fun args t k => match args with
  | [.str w] => (match Nat.ble w.length 900 with
    | true => k (.str (f w)) t
    | false => none)
  | _ => none⟩
noncomputable def smF (f : Str → Str) (F : Str → Tel → Tel) : Nat → Option Summ := smC [(189, S189 f F), (461, S461 f)] smN
noncomputable def forP : List Stmt → Expr × List Stmt
  | .For t _ b _ _ :: _ => (t, b)
  | _ => (.Name "" default, [])
noncomputable def f25 : Expr × List Stmt := forP lawRest
noncomputable def l25 (ns : List V) (a b c d e g : V) : List (Str × V) := [("script", .lst ns), ("teller", .self), ("start", a), ("part", b), ("openers", c), ("closers", d), ("signs", e), ("word", g)]
section
variable {R : Type}
noncomputable def slK (vs : List V) (lo hi : Option Int) (k : List V → Option R) : Option R := match true, Nat.ble (sliceV vs lo hi).length 1000 with
  | true, true => k (sliceV vs lo hi)
  | _, _ => none
noncomputable def pkK (tbl : List V) (m : Int) (vs : List V) (k : List V → Option R) : Option R := match pickAll tbl m vs with
  | some us => (match Nat.ble us.length 1000, some us with
    | true, some us => k us
    | _, _ => none)
  | none => none
noncomputable def leK (n m : Nat) (k : Option R) : Option R := match Nat.ble n m with
  | true => k
  | false => none
noncomputable def joK (us : List V) (k : V → Option R) : Option R := match strM "" "join" [.lst us] with
  | some r => k r
  | none => none
noncomputable def neK (a b : Str) (yes no : Option R) : Option R := match !(a == b) with
  | true => yes
  | false => no
end
section
variable (f : Str → Str) (F : Str → Tel → Tel) (n : Nat) (ns : List V) (s : Int) (r : List V) (a b c d e g : V) (t : Tel) (K : Ks Bool)
noncomputable def sg25 (l : List (Str × V)) (t : Tel) : Sg := ⟨fnS (topSt 25), 12, l, t⟩
noncomputable def KT (W : Wd) (n : Nat) (r : List V) (K : Ks Bool) : Ks Bool := { K with next := fun σ => run W n (.fors f25.1 r f25.2 σ K), cont := fun σ => run W n (.fors f25.1 r f25.2 σ K), brk := K.next, exc := fun _ _ => none }
noncomputable def t5 (us cs gs : List V) (p : List V) : Option Bool := joK (us ++ gs ++ cs) fun w =>
    run (wdS (smF f F)) (n + 19) (.exs (f25.2.drop 5) (sg25 (l25 ns (.int s) (.lst p) (.lst us) (.lst cs) (.lst gs) w) t) (KT (wdS (smF f F)) (n + 24) r K))
noncomputable def t4 (us cs gs : List V) (p : List V) : Option Bool := leK (us.length + gs.length) 1000 (leK ((us ++ gs).length + cs.length) 1000 (t5 f F n ns s r t K us cs gs p))
noncomputable def t3 (p us cs : List V) : Option Bool := slK p (some 5) none fun p3 => pkK (sgL.map V.str) 33 p3 fun gs => t4 f F n ns s r t K us cs gs p
noncomputable def t2 (p us : List V) : Option Bool := slK p (some 2) (some 5) fun p2 => pkK (clL.map V.str) 11 p2 fun cs => t3 f F n ns s r t K p us cs
noncomputable def t1 (p : List V) : Option Bool := slK p none (some 2) fun p1 => pkK (opL.map V.str) 22 p1 fun us => t2 f F n ns s r t K p us
theorem turn25 : run (wdS (smF f F)) (n + 25) (.fors f25.1 (.int s :: r) f25.2 (sg25 (l25 ns a b c d e g) t) K) = slK ns (some s) (some (s + 15)) fun p => t1 f F n ns s r t K p := by kernel_rfl
variable (p us cs gs : List V) (w : Str)
theorem same25 : run (wdS (smF f F)) (n + 19) (.exs (f25.2.drop 5) (sg25 (l25 ns (.int s) (.lst p) (.lst us) (.lst cs) (.lst gs) (.str w)) t) K) =
  leK w.length 900 (leK w.length 900 (neK (f w) (f w) (K.ret (.bool false) (sg25 (l25 ns (.int s) (.lst p) (.lst us) (.lst cs) (.lst gs) (.str w)) (F w t))) (K.next (sg25 (l25 ns (.int s) (.lst p) (.lst us) (.lst cs) (.lst gs) (.str w)) (F w t))))) := by kernel_rfl
noncomputable def KL (W : Wd) (n : Nat) : Ks Bool := { kLaw with next := fun σ => run W n (.exs (lawRest.drop 1) σ kLaw), exc := fun _ _ => none }
theorem start25 (ns : List Int) : run (wdS (smF f F)) (n + 9) (.exs lawRest ⟨fnS (topSt 25), 12, loc0 ns, tel0⟩ kLaw) =
  run (wdS (smF f F)) (n + 8) (.fors f25.1 [.int 0, .int 15, .int 30, .int 45] f25.2 (sg25 (l25 (ns.map .int) .undef .undef .undef .undef .undef .undef) tel0) (KL (wdS (smF f F)) (n + 8))) := by kernel_rfl
theorem end25 (σ : Sg) : run (wdS (smF f F)) (n + 9) (.fors f25.1 [] f25.2 σ (KL (wdS (smF f F)) (n + 9))) = some true := by kernel_rfl
end
end Mine
end
section
set_option autoImplicit false
set_option maxRecDepth 1000000
set_option linter.all false
namespace Mine
open PySem PySem.W PySem.Calls PyProof.Rows
noncomputable def IntsV (vs : List V) : Prop := ∀ v ∈ vs, ∃ i, v = .int i
theorem slcMem {vs : List V} {lo hi : Option Int} {v : V} (h : v ∈ sliceV vs lo hi) : v ∈ vs := by
  unfold sliceV at h
  rw [List.mem_filterMap] at h
  obtain ⟨i, _, hi⟩ := h
  exact List.mem_of_getElem? hi
theorem slcLen (vs : List V) (lo hi : Option Int) : (sliceV vs lo hi).length ≤ vs.length := by
  unfold sliceV
  refine Nat.le_trans (List.length_filterMap_le _ _) (sliceRange_length_le _ _ _ _ (fun hc => ?_) fun hc => ?_)
  · simp only [sliceBounds] at hc ⊢
    simp only [hc, if_true]
    constructor
    · cases lo with
      | none => simp
      | some i => dsimp only; omega
    · cases hi with
      | none => simp
      | some i => dsimp only; omega
  · exact absurd (show (1 : Int) > 0 by decide) hc
theorem nth_ok {L : List Str} : ∀ {j : Nat}, j < L.length → ∃ x, nthV (L.map V.str) j = some (.str x) ∧ x ∈ L := by
  induction L with
  | nil => intro j h; exact absurd h (Nat.not_lt_zero _)
  | cons y r ih =>
    intro j h
    cases j with
    | zero => exact ⟨y, rfl, .head _⟩
    | succ j =>
      obtain ⟨x, h1, h2⟩ := ih (j := j) (by rw [List.length_cons] at h; omega)
      exact ⟨x, h1, .tail _ h2⟩
theorem pick_ok {L : List Str} {m : Int} (hm : 0 < m) (hL : (L.length : Int) = m) : ∀ {vs : List V}, IntsV vs → ∃ xs : List Str, pickAll (L.map V.str) m vs = some (xs.map V.str) ∧ xs.length = vs.length ∧ ∀ x ∈ xs, x ∈ L
  | [], _ => ⟨[], rfl, rfl, fun x h => by cases h⟩
  | v :: r, h => by
    obtain ⟨i, rfl⟩ := h v (.head _)
    obtain ⟨xs, h1, h2, h3⟩ := pick_ok hm hL (vs := r) fun w hw => h w (.tail _ hw)
    have e1 := Int.emod_nonneg i (show m ≠ 0 by omega)
    have e2 := Int.emod_lt_of_pos i hm
    obtain ⟨x, h4, h5⟩ := nth_ok (L := L) (j := (i % m).toNat) (by omega)
    refine ⟨x :: xs, ?_, by rw [List.length_cons, List.length_cons, h2], fun y hy => ?_⟩
    · unfold pickAll
      rw [h4, h1]
      rfl
    · rcases List.mem_cons.mp hy with rfl | hy
      · exact h5
      · exact h3 y hy
theorem isStrs_map : ∀ xs : List Str, isStrs (xs.map V.str) = some xs
  | [] => rfl
  | x :: r => by
    rw [List.map_cons]
    unfold isStrs
    rw [isStrs_map r]
theorem sum_le {L : List Str} {b : Nat} (hb : ∀ x ∈ L, x.length ≤ b) : ∀ {xs : List Str}, (∀ x ∈ xs, x ∈ L) → (xs.map (·.length)).sum ≤ b * xs.length
  | [], _ => Nat.zero_le _
  | x :: r, h => by
    have h1 := sum_le hb (xs := r) fun y hy => h y (.tail _ hy)
    have h2 := hb x (h x (.head _))
    rw [List.map_cons, List.sum_cons, List.length_cons, Nat.mul_add, Nat.mul_one]
    show x.length + _ ≤ _
    omega
section
variable {R : Type}
theorem slK_ok {vs : List V} (h : vs.length ≤ 63) (lo hi : Option Int) (k : List V → Option R) : slK vs lo hi k = k (sliceV vs lo hi) := by
  unfold slK
  have := slcLen vs lo hi
  rw [Nat.ble_eq_true_of_le (show (sliceV vs lo hi).length ≤ 1000 by omega)]
theorem leK_ok {n m : Nat} (h : n ≤ m) (k : Option R) : leK n m k = k := by
  unfold leK
  rw [Nat.ble_eq_true_of_le h]
theorem neK_ok (a : Str) (x y : Option R) : neK a a x y = y := by
  unfold neK
  rw [beq_self_eq_true]
  rfl
theorem pkK_ok {tbl : List V} {m : Int} {vs : List V} {xs : List Str} (h : pickAll tbl m vs = some (xs.map V.str)) (hl : xs.length ≤ 63) (k : List V → Option R) : pkK tbl m vs k = k (xs.map V.str) := by
  unfold pkK
  rw [h]
  dsimp only
  rw [Nat.ble_eq_true_of_le (show (xs.map V.str).length ≤ 1000 by rw [List.length_map]; omega)]
theorem joK_ok {ts : List Str} (h : (ts.map (·.length)).sum ≤ 900) (k : V → Option R) : joK (ts.map V.str) k = k (.str (Txt.join "" ts)) ∧ (Txt.join "" ts).length ≤ 900 := by
  have hl : (Txt.join "" ts).length ≤ 900 := by
    show (Builtin.Str.glued "" ts).length ≤ 900
    rw [StrLaws.glued_eq_join]
    have := StrLaws.join_length_le "" ts
    have h0 : (("" : Str)).length = 0 := rfl
    rw [h0] at this
    omega
  refine ⟨?_, hl⟩
  have hj : JoinOk "" ts = true := joinOk_of (by
    have : (("" : Str)).length = 0 := rfl
    rw [this]; omega)
  have e : strM "" "join" [.lst (ts.map V.str)] = some (.str (Txt.join "" ts)) := by
    show (match ("join" : Str) == ("join" : Str), isStrs (ts.map V.str) with
      | true, some ts => (match JoinOk "" ts && Nat.ble (Txt.join "" ts).length 1000000 with | true => some (V.str (Txt.join "" ts)) | false => none)
      | _, _ => none) = _
    rw [isStrs_map, beq_self_eq_true]
    dsimp only
    rw [hj, Nat.ble_eq_true_of_le (by omega)]
    rfl
  unfold joK
  rw [e]
end
theorem op_le : ∀ x ∈ opL, x.length ≤ 7 := by decide +kernel
theorem sg_le : ∀ x ∈ sgL, x.length ≤ 2 := by decide +kernel
theorem cl_le : ∀ x ∈ clL, x.length ≤ 3 := by decide +kernel
theorem turn_ok (f : Str → Str) (F : Str → Tel → Tel) (n : Nat) {vs : List V} (hv : IntsV vs) (hl : vs.length ≤ 63) (s : Int) (r : List V) (a b c d e g : V) (t : Tel) (K : Ks Bool) :
    ∃ a' b' c' d' e' g' t', run (wdS (smF f F)) (n + 25) (.fors f25.1 (.int s :: r) f25.2 (sg25 (l25 vs a b c d e g) t) K) = run (wdS (smF f F)) (n + 24) (.fors f25.1 r f25.2 (sg25 (l25 vs a' b' c' d' e' g') t') K) := by
  rw [turn25, slK_ok hl]
  have hp : IntsV (sliceV vs (some s) (some (s + 15))) := fun v hv' => hv v (slcMem hv')
  have hpl := slcLen vs (some s) (some (s + 15))
  generalize sliceV vs (some s) (some (s + 15)) = p at hp hpl
  have hs : ∀ lo hi, IntsV (sliceV p lo hi) := fun lo hi v hv' => hp v (slcMem hv')
  obtain ⟨x1, p1, l1, m1⟩ := pick_ok (L := opL) (m := 22) (by decide) (by kernel_rfl) (hs none (some 2))
  obtain ⟨x2, p2, l2, m2⟩ := pick_ok (L := clL) (m := 11) (by decide) (by kernel_rfl) (hs (some 2) (some 5))
  obtain ⟨x3, p3, l3, m3⟩ := pick_ok (L := sgL) (m := 33) (by decide) (by kernel_rfl) (hs (some 5) none)
  have q1 := slcLen p none (some 2)
  have q2 := slcLen p (some 2) (some 5)
  have q3 := slcLen p (some 5) none
  have w1 := sum_le op_le m1
  have w2 := sum_le cl_le m2
  have w3 := sum_le sg_le m3
  have hsum : ((x1 ++ x3 ++ x2).map (·.length)).sum ≤ 900 := by
    rw [List.map_append, List.map_append, List.sum_append, List.sum_append]
    omega
  have z1 : t1 f F n vs s r t K p = t2 f F n vs s r t K p (x1.map V.str) := (slK_ok (by omega) _ _ _).trans (pkK_ok p1 (by omega) _)
  have z2 : t2 f F n vs s r t K p (x1.map V.str) = t3 f F n vs s r t K p (x1.map V.str) (x2.map V.str) := (slK_ok (by omega) _ _ _).trans (pkK_ok p2 (by omega) _)
  have z3 : t3 f F n vs s r t K p (x1.map V.str) (x2.map V.str) = t4 f F n vs s r t K (x1.map V.str) (x2.map V.str) (x3.map V.str) p := (slK_ok (by omega) _ _ _).trans (pkK_ok p3 (by omega) _)
  have z4 : t4 f F n vs s r t K (x1.map V.str) (x2.map V.str) (x3.map V.str) p = t5 f F n vs s r t K (x1.map V.str) (x2.map V.str) (x3.map V.str) p :=
    (leK_ok (by rw [List.length_map, List.length_map]; omega) _).trans (leK_ok (by rw [List.length_append, List.length_map, List.length_map, List.length_map]; omega) _)
  have em : x1.map V.str ++ x3.map V.str ++ x2.map V.str = (x1 ++ x3 ++ x2).map V.str := by rw [List.map_append, List.map_append]
  have hj := (joK_ok (R := Bool) hsum (fun _ => none)).2
  refine ⟨.int s, .lst p, .lst (x1.map V.str), .lst (x2.map V.str), .lst (x3.map V.str), .str (Txt.join "" (x1 ++ x3 ++ x2)), F (Txt.join "" (x1 ++ x3 ++ x2)) t, (z1.trans (z2.trans (z3.trans z4))).trans ?_⟩
  unfold t5
  rw [em, (joK_ok hsum _).1, same25, leK_ok hj, leK_ok hj, neK_ok]
  rfl
theorem next25 (W : Wd) (n : Nat) (σ : Sg) : run W (n + 9) (.fors f25.1 [] f25.2 σ (KL W (n + 12))) = some true := by kernel_rfl
theorem pure_ok (f : Str → Str) (F : Str → Tel → Tel) (ns : List Int) (h : ns.length ≤ 63) : run (wdS (smF f F)) 60 (.exs lawRest ⟨fnS (topSt 25), 12, loc0 ns, tel0⟩ kLaw) = some true := by
  have hv : IntsV (ns.map .int) := fun v hv => by
    obtain ⟨i, _, e⟩ := List.mem_map.mp hv
    exact ⟨i, e.symm⟩
  have hl : (ns.map V.int).length ≤ 63 := by rw [List.length_map]; exact h
  have e0 := start25 f F 51 ns
  obtain ⟨a1, b1, c1, d1, g1, h1, t1, e1⟩ := turn_ok f F 34 hv hl 0 [.int 15, .int 30, .int 45] .undef .undef .undef .undef .undef .undef tel0 (KL (wdS (smF f F)) 59)
  obtain ⟨a2, b2, c2, d2, g2, h2, t2, e2⟩ := turn_ok f F 33 hv hl 15 [.int 30, .int 45] a1 b1 c1 d1 g1 h1 t1 (KL (wdS (smF f F)) 59)
  obtain ⟨a3, b3, c3, d3, g3, h3, t3, e3⟩ := turn_ok f F 32 hv hl 30 [.int 45] a2 b2 c2 d2 g2 h2 t2 (KL (wdS (smF f F)) 59)
  obtain ⟨a4, b4, c4, d4, g4, h4, t4, e4⟩ := turn_ok f F 31 hv hl 45 [] a3 b3 c3 d3 g3 h3 t3 (KL (wdS (smF f F)) 59)
  exact e0.trans (e1.trans (e2.trans (e3.trans (e4.trans (by kernel_rfl)))))
end Mine
end
section
set_option autoImplicit false
set_option maxRecDepth 1000000
set_option linter.all false
namespace Mine
open PySem PySem.W PySem.Calls PyProof.Rows

/-! the plain words on lists of signs -/
noncomputable abbrev pf (s l : List Nat) : Bool := s.isPrefixOf l
noncomputable abbrev sf (s l : List Nat) : Bool := s.isSuffixOf l
noncomputable def hv : List Nat → Bool
  | [] => false
  | x :: _ => isV x
noncomputable def fsL (l : List Nat) : List Nat × List Nat × Nat :=
  if pf [100, 105] l then ([], l.drop 2, 1) else if pf [116, 101, 114] l then ([], l.drop 3, 1) else if pf [109, 101] l then ([], l.drop 2, 1) else if pf [107, 101] l then ([], l.drop 2, 3) else ([], l, 0)
noncomputable def kdL (l : List Nat) : Nat := if pf [109, 101] l then 1 else 3
noncomputable def firstL (l : List Nat) : List Nat × List Nat × Nat :=
  if pf [109, 101] l || pf [112, 101] l then
    (if pf [110, 103] (l.drop 2) then ([], (l.drop 2).drop 2, kdL l)
    else if pf [110, 121] (l.drop 2) && hv ((l.drop 2).drop 2) then ([115], (l.drop 2).drop 2, kdL l)
    else if pf [110] (l.drop 2) then ([], (l.drop 2).drop 1, kdL l)
    else if pf [109] (l.drop 2) && hv ((l.drop 2).drop 1) then ([112], (l.drop 2).drop 1, kdL l)
    else if pf [109] (l.drop 2) then ([], (l.drop 2).drop 1, kdL l)
    else fsL l)
  else fsL l
noncomputable def secondL (l : List Nat) : List Nat × Nat :=
  if pf [98, 101, 114] l then (l.drop 3, 4) else if pf [98, 101, 108, 97, 106, 97, 114] l then (l.drop 3, 4) else if pf [112, 101, 114] l then (l.drop 3, 2) else if pf [112, 101, 108, 97, 106, 97, 114] l then (l.drop 3, 0)
  else if pf [112, 101] l then (l.drop 2, 2) else if pf [98, 101] l && !hv (l.drop 2) && ((l.drop 3).take 2 == [101, 114]) then (l.drop 2, 4) else (l, 0)
noncomputable def kS : Nat → Str
  | 0 => ""
  | 1 => "di"
  | 2 => "per"
  | 3 => "ke"
  | _ => "ber"
noncomputable def ret3 (t : Tel) (x : List Nat × List Nat × Nat) : Option (V × Tel) := some (.tup [.str (St x.1), .str (St x.2.1), .str (kS x.2.2)], t)
noncomputable def ret2 (t : Tel) (x : List Nat × Nat) : Option (V × Tel) := some (.tup [.str (St x.1), .str (kS x.2)], t)
theorem if_ret {α β : Type} (f : α → β) (c : Bool) (x y : α) : (match c with | true => f x | false => f y) = f (if c then x else y) := by cases c <;> rfl
section
variable (l : List Nat) (t : Tel)
theorem rF_ret {b : Str} {s : List Nat} (hb : b = St s) {kd : Str} {k : Nat} (hk : kd = kS k) (n : Nat) {m : Int} (hm : m = (n : Int)) (y : List Nat × List Nat × Nat) : rF (St l) t b m kd (ret3 t y) = ret3 t (if pf s l then ([], l.drop n, k) else y) := by
  unfold rF
  subst hb hk hm
  rw [starts_St, slice_i]
  exact if_ret (ret3 t) (pf s l) ([], l.drop n, k) y
theorem rD_ret {b : Str} {s : List Nat} (hb : b = St s) {kd : Str} {k : Nat} (hk : kd = kS k) (n : Nat) {m : Int} (hm : m = (n : Int)) (y : List Nat × Nat) : rD (St l) t b m kd (ret2 t y) = ret2 t (if pf s l then (l.drop n, k) else y) := by
  unfold rD
  subst hb hk hm
  rw [starts_St, slice_i]
  exact if_ret (ret2 t) (pf s l) (l.drop n, k) y
theorem vl_hv (r : List Nat) : vl.any (· == St (r.take 1)) = hv r := by
  cases r with
  | nil => kernel_rfl
  | cons x r => rfl
theorem St_beq (a b : List Nat) : (St a == St b) = (a == b) := by
  by_cases h : a = b
  · subst h; rw [beq_self_eq_true, beq_self_eq_true]
  · rw [beq_false_of_ne h, beq_false_of_ne (fun e => h (St_inj e))]
theorem take_pf2 (a b : Nat) : (([a, b] : List Nat) == l.take 2) = pf [a, b] l := by
  cases l with
  | nil => rfl
  | cons x r =>
    cases r with
    | nil => show ((a == x) && ([b] == [])) = _; simp [pf, List.isPrefixOf]
    | cons y r => simp [pf, List.isPrefixOf]
theorem retK_eq (tl : List Nat) (lost : Str) (lo : List Nat) (hl : lost = St lo) (r : List Nat) : retK (St (l.take 2)) lost (St r) t = ret3 t (lo, r, kdL l) := by
  subst hl
  unfold retK kdL
  rw [show ("me" : Str) = St [109, 101] from rfl, St_beq, Bool.beq_comm, take_pf2]
  cases pf [109, 101] l <;> rfl
theorem rS_ret {b : Str} {s : List Nat} (hb : b = St s) {lost : Str} {lo : List Nat} (hk : lost = St lo) (n : Nat) {m : Int} (hm : m = (n : Int)) (ah : Bool) (tl : List Nat) (y : List Nat × List Nat × Nat) :
    rS (St (l.take 2)) (St tl) t b m lost ah (ret3 t y) = ret3 t (if pf s tl && (!ah || hv (tl.drop n)) then (lo, tl.drop n, kdL l) else y) := by
  unfold rS
  subst hb hm
  rw [starts_St, slice_i, show Txt.slice (St (tl.drop n)) none (some 1) = St ((tl.drop n).take 1) from slice_0j _ 1, vl_hv, retK_eq l t tl lost lo hk]
  have e : s.isPrefixOf tl = pf s tl := rfl
  rw [e]
  generalize pf s tl = q
  generalize hv (tl.drop n) = q2
  cases q <;> cases ah <;> cases q2 <;> rfl
theorem F447 : gR smN 60 447 2 [.str (St l)] t = ret3 t (firstL l) := by
  rw [s447]
  have e1 : Txt.slice (St l) none (some 2) = St (l.take 2) := slice_0j l 2
  have e2 : Txt.slice (St l) (some 2) none = St (l.drop 2) := slice_i l 2
  rw [e1, e2]
  dsimp only
  have e3 : fstN (St l) t = ret3 t (fsL l) := by
    unfold fstN
    rw [show (some (V.tup [.str "", .str (St l), .str ""], t) : Option (V × Tel)) = ret3 t ([], l, 0) from rfl]
    rw [rF_ret l t (b := "ke") (s := [107, 101]) rfl (kd := "ke") (k := 3) rfl 2 (m := 2) rfl]
    rw [rF_ret l t (b := "me") (s := [109, 101]) rfl (kd := "di") (k := 1) rfl 2 (m := 2) rfl]
    rw [rF_ret l t (b := "ter") (s := [116, 101, 114]) rfl (kd := "di") (k := 1) rfl 3 (m := 3) rfl]
    rw [rF_ret l t (b := "di") (s := [100, 105]) rfl (kd := "di") (k := 1) rfl 2 (m := 2) rfl]
    rfl
  rw [e3]
  rw [rS_ret l t (b := "m") (s := [109]) rfl (lost := "") (lo := []) rfl 1 (m := 1) rfl]
  rw [rS_ret l t (b := "m") (s := [109]) rfl (lost := "p") (lo := [112]) rfl 1 (m := 1) rfl]
  rw [rS_ret l t (b := "n") (s := [110]) rfl (lost := "") (lo := []) rfl 1 (m := 1) rfl]
  rw [rS_ret l t (b := "ny") (s := [110, 121]) rfl (lost := "s") (lo := [115]) rfl 2 (m := 2) rfl]
  rw [rS_ret l t (b := "ng") (s := [110, 103]) rfl (lost := "") (lo := []) rfl 2 (m := 2) rfl]
  have e4 : (["me", "pe"] : List Str).any (· == St (l.take 2)) = (pf [109, 101] l || pf [112, 101] l) := by
    show ((("me" : Str) == St (l.take 2)) || ((("pe" : Str) == St (l.take 2)) || false)) = _
    rw [show ("me" : Str) = St [109, 101] from rfl, show ("pe" : Str) = St [112, 101] from rfl, St_beq, St_beq, take_pf2, take_pf2, Bool.or_false]
  rw [e4]
  refine (if_ret (ret3 t) _ _ _).trans (congrArg (ret3 t) ?_)
  unfold firstL
  simp only [Bool.not_false, Bool.true_or, Bool.and_true, Bool.not_true, Bool.false_or]
theorem F454 : gR smN 60 454 2 [.str (St l)] t = ret2 t (secondL l) := by
  rw [s454]
  have e2 : Txt.slice (St l) (some 2) none = St (l.drop 2) := slice_i l 2
  have e3 : Txt.slice (St l) (some 2) (some 3) = St ((l.drop 2).take 1) := slice_ij l 2 3 (by omega)
  have e4 : Txt.slice (St l) (some 3) (some 5) = St ((l.drop 3).take 2) := slice_ij l 3 5 (by omega)
  have e5 : Txt.startswith (St l) "be" = pf [98, 101] l := starts_St l [98, 101]
  rw [e2, e3, e4, e5, vl_hv, show ("er" : Str) = St [101, 114] from rfl, St_beq]
  have e6 : rB (pf [98, 101] l) (!hv (l.drop 2)) ((l.drop 3).take 2 == [101, 114]) (some (V.tup [.str (St (l.drop 2)), .str "ber"], t)) (some (.tup [.str (St l), .str ""], t)) = ret2 t (if pf [98, 101] l && !hv (l.drop 2) && ((l.drop 3).take 2 == [101, 114]) then (l.drop 2, 4) else (l, 0)) := by
    generalize pf [98, 101] l = q1
    generalize hv (l.drop 2) = q2
    generalize ((l.drop 3).take 2 == [101, 114]) = q3
    cases q1 <;> cases q2 <;> cases q3 <;> rfl
  rw [e6]
  rw [rD_ret l t (b := "pe") (s := [112, 101]) rfl (kd := "per") (k := 2) rfl 2 (m := 2) rfl]
  rw [rD_ret l t (b := "pelajar") (s := [112, 101, 108, 97, 106, 97, 114]) rfl (kd := "") (k := 0) rfl 3 (m := 3) rfl]
  rw [rD_ret l t (b := "per") (s := [112, 101, 114]) rfl (kd := "per") (k := 2) rfl 3 (m := 3) rfl]
  rw [rD_ret l t (b := "belajar") (s := [98, 101, 108, 97, 106, 97, 114]) rfl (kd := "ber") (k := 4) rfl 3 (m := 3) rfl]
  rw [rD_ret l t (b := "ber") (s := [98, 101, 114]) rfl (kd := "ber") (k := 4) rfl 3 (m := 3) rfl]
  rfl
end
end Mine
end
section
set_option autoImplicit false
set_option maxRecDepth 1000000
set_option linter.all false
namespace Mine
open PySem PySem.W PySem.Calls PyProof.Rows
noncomputable def prsOf : List V → Option (List (Str × Int))
  | [] => some []
  | .tup [.str e, .int g] :: r => (match prsOf r with
    | some l => some ((e, g) :: l)
    | none => none)
  | _ => none
section
variable {R : Type}
noncomputable def frst (w : Str) (f0 f1 f3 : Str → Str → Option R) : Option R := match (firstL w.cps.toList).2.2 with
  | 0 => f0 (St (firstL w.cps.toList).1) (St (firstL w.cps.toList).2.1)
  | 1 => f1 (St (firstL w.cps.toList).1) (St (firstL w.cps.toList).2.1)
  | _ => f3 (St (firstL w.cps.toList).1) (St (firstL w.cps.toList).2.1)
noncomputable def scnd (w : Str) (f0 f2 f4 : Str → Option R) : Option R := match (secondL w.cps.toList).2 with
  | 0 => f0 (St (secondL w.cps.toList).1)
  | 2 => f2 (St (secondL w.cps.toList).1)
  | _ => f4 (St (secondL w.cps.toList).1)
end
noncomputable def S440 : Summ := ⟨1, fun args t k => match args with
  | [.str w, .lst tbl] => (match prsOf tbl with
    | some l => (match Nat.ble l.length 4 with
      | true => k (.str (lessP w l)) t
      | false => none)
    | none => none)
  | _ => none⟩
noncomputable def S447 : Summ := ⟨2, fun args t k => match args with
  | [.str w] => frst w (fun a b => k (.tup [.str a, .str b, .str ""]) t) (fun a b => k (.tup [.str a, .str b, .str "di"]) t) (fun a b => k (.tup [.str a, .str b, .str "ke"]) t)
  | _ => none⟩
noncomputable def S454 : Summ := ⟨2, fun args t k => match args with
  | [.str w] => scnd w (fun b => k (.tup [.str b, .str ""]) t) (fun b => k (.tup [.str b, .str "per"]) t) (fun b => k (.tup [.str b, .str "ber"]) t)
  | _ => none⟩
noncomputable def C3 : List (Nat × Summ) := [(440, S440), (447, S447), (454, S454)]
noncomputable def sm3 : Nat → Option Summ := smC C3 sums
noncomputable def parts : List (Str × Int) := [("kah", 3), ("lah", 3), ("pun", 3)]
noncomputable def owns : List (Str × Int) := [("nya", 3), ("ku", 2), ("mu", 2)]
noncomputable def borne : Nat → List (Str × Int)
  | 0 => [("kan", 3), ("an", 2), ("si", 0), ("i", 1)]
  | 1 => [("kan", 3), ("si", 0), ("i", 1)]
  | 2 => [("an", 2), ("si", 0), ("i", 1)]
  | 3 => [("an", 2)]
  | _ => [("kan", 3), ("an", 2)]
section
variable {R : Type}
noncomputable def lgY (x : Str) (yes no : Option R) : Option R := match Nat.ble x.length 1000 with
  | true => (match longB x with
    | true => yes
    | false => no)
  | false => none
noncomputable def lgN (x : Str) (yes no : Option R) : Option R := match Nat.ble x.length 1000 with
  | true => (match !longB x with
    | true => no
    | false => yes)
  | false => none
end
variable (t : Tel)
noncomputable def lawE (lost less : Str) : Option (V × Tel) := match Nat.ble (lost.length + less.length) 1000000 with
  | true => some (.str (lost ++ less), t)
  | false => none
noncomputable def lawF (op : Bool) (lost rest less : Str) : Option (V × Tel) := match op with
  | true => (match !(less == rest) with
    | true => lgY less (scnd less (lawE t lost) (lawE t lost) (lawE t lost)) (lawE t lost less)
    | false => lawE t lost less)
  | false => lawE t lost less
noncomputable def lawD (op : Bool) (kd : Nat) (lost rest : Str) : Option (V × Tel) := lgY rest (lawF t op lost rest (lessP rest (borne kd))) (lawF t op lost rest rest)
noncomputable def lawC (w : Str) : Option (V × Tel) := frst w (fun lost _ => scnd w (lawD t false 0 lost) (lawD t false 2 lost) (lawD t false 4 lost)) (lawD t true 1) (lawD t true 3)
noncomputable def lawB (w : Str) : Option (V × Tel) := lgN w (lawC t w) (some (.str w, t))
noncomputable def lawA (w : Str) : Option (V × Tel) := lgY w (lawB t (lessP w owns)) (lawB t w)
theorem s461 (w : Str) : gR sm3 80 461 3 [.str w] t = lgY w (lawA t (lessP w parts)) (lawA t w) := by kernel_rfl
end Mine
end
section
set_option autoImplicit false
set_option maxRecDepth 1000000
set_option linter.all false
namespace Mine
open PySem PySem.W PySem.Calls PyProof.Rows
theorem lv_n : Lev smN := by
  refine ⟨fun X HX b S hS => ?_, fun b hb => by cases hb⟩
  have hs : X.wd.sums = smN := by rw [HX.wd]; rfl
  rw [hs] at hS
  cases hS
theorem s440_0 (w : Str) (t : Tel) : gR smN 60 440 1 [.str w, prsV []] t = some (.str w, t) := by kernel_rfl
theorem prsOf_ok : ∀ {tbl : List V} {l : List (Str × Int)}, prsOf tbl = some l → V.lst tbl = prsV l
  | [], l, h => by cases h; rfl
  | v :: r, l, h => by
    unfold prsOf at h
    split at h
    · cases h; contradiction
    · rename_i e g r' heq
      obtain ⟨rfl, rfl⟩ := List.cons.inj heq
      split at h
      · rename_i l' hl
        obtain rfl := Option.some.inj h
        have ih := prsOf_ok hl
        unfold prsV at ih ⊢
        rw [List.map_cons]
        injection ih with ih
        rw [ih]
      · cases h
    · cases h
theorem rL_str (w : Str) (t : Tel) (e : Str) (g : Int) (l : List (Str × Int)) : rL w t e g (some (.str (lessP w l), t)) = some (.str (lessP w ((e, g) :: l)), t) := by
  unfold rL
  show _ = some (V.str (match Txt.endswith w e with | true => Txt.slice w none (some ((w.length : Int) - g)) | false => lessP w l), t)
  cases Txt.endswith w e <;> rfl
theorem F440 (w : Str) (t : Tel) : ∀ (l : List (Str × Int)), l.length ≤ 4 → gR smN 60 440 1 [.str w, prsV l] t = some (.str (lessP w l), t)
  | [], _ => s440_0 w t
  | [(e1, g1)], _ => by rw [s440_1, ← rL_str]; rfl
  | [(e1, g1), (e2, g2)], _ => by rw [s440_2, ← rL_str, ← rL_str]; rfl
  | [(e1, g1), (e2, g2), (e3, g3)], _ => by rw [s440_3, ← rL_str, ← rL_str, ← rL_str]; rfl
  | [(e1, g1), (e2, g2), (e3, g3), (e4, g4)], _ => by rw [s440_4, ← rL_str, ← rL_str, ← rL_str, ← rL_str]; rfl
  | _ :: _ :: _ :: _ :: _ :: _, h => by simp at h
theorem first_kd (l : List Nat) : (firstL l).2.2 = 0 ∧ (firstL l).1 = [] ∧ (firstL l).2.1 = l ∨ (firstL l).2.2 = 1 ∨ (firstL l).2.2 = 3 := by
  have fs : (fsL l).2.2 = 0 ∧ (fsL l).1 = [] ∧ (fsL l).2.1 = l ∨ (fsL l).2.2 = 1 ∨ (fsL l).2.2 = 3 := by
    unfold fsL
    split
    · exact .inr (.inl rfl)
    · split
      · exact .inr (.inl rfl)
      · split
        · exact .inr (.inl rfl)
        · split
          · exact .inr (.inr rfl)
          · exact .inl ⟨rfl, rfl, rfl⟩
  have kd : kdL l = 1 ∨ kdL l = 3 := by
    unfold kdL
    split
    · exact .inl rfl
    · exact .inr rfl
  unfold firstL
  split
  · split
    · exact .inr kd
    · split
      · exact .inr kd
      · split
        · exact .inr kd
        · split
          · exact .inr kd
          · split
            · exact .inr kd
            · exact fs
  · exact fs
theorem second_kd (l : List Nat) : (secondL l).2 = 0 ∨ (secondL l).2 = 2 ∨ (secondL l).2 = 4 := by
  unfold secondL
  split
  · exact .inr (.inr rfl)
  · split
    · exact .inr (.inr rfl)
    · split
      · exact .inr (.inl rfl)
      · split
        · exact .inl rfl
        · split
          · exact .inr (.inl rfl)
          · split
            · exact .inr (.inr rfl)
            · exact .inl rfl
section
variable {R : Type}
theorem frst_0 {l : List Nat} (h : (firstL l).2.2 = 0) (f0 f1 f3 : Str → Str → Option R) : frst (St l) f0 f1 f3 = f0 (St (firstL l).1) (St (firstL l).2.1) := by
  unfold frst
  rw [St_cps, h]
  rfl
theorem frst_1 {l : List Nat} (h : (firstL l).2.2 = 1) (f0 f1 f3 : Str → Str → Option R) : frst (St l) f0 f1 f3 = f1 (St (firstL l).1) (St (firstL l).2.1) := by
  unfold frst
  rw [St_cps, h]
  rfl
theorem frst_3 {l : List Nat} (h : (firstL l).2.2 = 3) (f0 f1 f3 : Str → Str → Option R) : frst (St l) f0 f1 f3 = f3 (St (firstL l).1) (St (firstL l).2.1) := by
  unfold frst
  rw [St_cps, h]
  rfl
theorem scnd_0 {l : List Nat} (h : (secondL l).2 = 0) (f0 f2 f4 : Str → Option R) : scnd (St l) f0 f2 f4 = f0 (St (secondL l).1) := by
  unfold scnd
  rw [St_cps, h]
  rfl
theorem scnd_2 {l : List Nat} (h : (secondL l).2 = 2) (f0 f2 f4 : Str → Option R) : scnd (St l) f0 f2 f4 = f2 (St (secondL l).1) := by
  unfold scnd
  rw [St_cps, h]
  rfl
theorem scnd_4 {l : List Nat} (h : (secondL l).2 = 4) (f0 f2 f4 : Str → Option R) : scnd (St l) f0 f2 f4 = f4 (St (secondL l).1) := by
  unfold scnd
  rw [St_cps, h]
  rfl
end
theorem lev3 : Lev sm3 := by
  refine lv0.addC C3 fun q hq => ?_
  unfold C3 at hq
  rcases List.mem_cons.mp hq with rfl | hq
  · refine ⟨by decide +kernel, smN, 60, lv_n, fun R args t k r hr => ?_⟩
    unfold S440 at hr
    dsimp only at hr
    split at hr
    · rename_i w tbl
      split at hr
      · rename_i l hl
        split at hr
        · rename_i h4
          refine ⟨_, t, ?_, hr⟩
          rw [prsOf_ok hl]
          exact F440 w t l (Nat.le_of_ble_eq_true h4)
        · cases hr
      · cases hr
    · cases hr
  · rcases List.mem_cons.mp hq with rfl | hq
    · refine ⟨by decide +kernel, smN, 60, lv_n, fun R args t k r hr => ?_⟩
      unfold S447 at hr
      dsimp only at hr
      split at hr
      · rename_i w
        rw [St_of w] at hr ⊢
        generalize w.cps.toList = l at hr ⊢
        have F : gR smN 60 447 2 [.str (St l)] t = some (.tup [.str (St (firstL l).1), .str (St (firstL l).2.1), .str (kS (firstL l).2.2)], t) := F447 l t
        rcases first_kd l with ⟨h, _⟩ | h | h
        · rw [frst_0 h] at hr; rw [h] at F; exact ⟨_, t, F, hr⟩
        · rw [frst_1 h] at hr; rw [h] at F; exact ⟨_, t, F, hr⟩
        · rw [frst_3 h] at hr; rw [h] at F; exact ⟨_, t, F, hr⟩
      · cases hr
    · rcases List.mem_cons.mp hq with rfl | hq
      · refine ⟨by decide +kernel, smN, 60, lv_n, fun R args t k r hr => ?_⟩
        unfold S454 at hr
        dsimp only at hr
        split at hr
        · rename_i w
          rw [St_of w] at hr ⊢
          generalize w.cps.toList = l at hr ⊢
          have F : gR smN 60 454 2 [.str (St l)] t = some (.tup [.str (St (secondL l).1), .str (kS (secondL l).2)], t) := F454 l t
          rcases second_kd l with h | h | h
          · rw [scnd_0 h] at hr; rw [h] at F; exact ⟨_, t, F, hr⟩
          · rw [scnd_2 h] at hr; rw [h] at F; exact ⟨_, t, F, hr⟩
          · rw [scnd_4 h] at hr; rw [h] at F; exact ⟨_, t, F, hr⟩
        · cases hr
      · cases hq
end Mine
end
section
set_option autoImplicit false
set_option maxRecDepth 1000000
set_option linter.all false
namespace Mine
open PySem PySem.W PySem.Calls PyProof.Rows
/-! the law on lists of signs -/
noncomputable def cnt (l : List Nat) : Nat := (l.filter isV).length
noncomputable def lng (l : List Nat) : Bool := decide (2 < cnt l)
noncomputable def lessL (l : List Nat) : List (List Nat × Nat) → List Nat
  | [] => l
  | (e, g) :: r => if sf e l then l.take (l.length - g) else lessL l r
noncomputable def partsL : List (List Nat × Nat) := [([107, 97, 104], 3), ([108, 97, 104], 3), ([112, 117, 110], 3)]
noncomputable def ownsL : List (List Nat × Nat) := [([110, 121, 97], 3), ([107, 117], 2), ([109, 117], 2)]
noncomputable def borneL : Nat → List (List Nat × Nat)
  | 0 => [([107, 97, 110], 3), ([97, 110], 2), ([115, 105], 0), ([105], 1)]
  | 1 => [([107, 97, 110], 3), ([115, 105], 0), ([105], 1)]
  | 2 => [([97, 110], 2), ([115, 105], 0), ([105], 1)]
  | 3 => [([97, 110], 2)]
  | _ => [([107, 97, 110], 3), ([97, 110], 2)]
noncomputable def strsOf (ps : List (List Nat × Nat)) : List (Str × Int) := ps.map fun x => (St x.1, (x.2 : Int))
theorem parts_eq : parts = strsOf partsL := rfl
theorem owns_eq : owns = strsOf ownsL := rfl
theorem borne_0 : borne 0 = strsOf (borneL 0) := rfl
theorem borne_1 : borne 1 = strsOf (borneL 1) := rfl
theorem borne_2 : borne 2 = strsOf (borneL 2) := rfl
theorem borne_3 : borne 3 = strsOf (borneL 3) := rfl
theorem borne_4 : borne 4 = strsOf (borneL 4) := rfl
theorem lessP_St (l : List Nat) : ∀ (ps : List (List Nat × Nat)), (∀ p ∈ ps, p.2 ≤ p.1.length) → lessP (St l) (strsOf ps) = St (lessL l ps)
  | [], _ => rfl
  | (e, g) :: r, h => by
    have ih := lessP_St l r fun p hp => h p (.tail _ hp)
    have hg : g ≤ e.length := h (e, g) (.head _)
    show (match Txt.endswith (St l) (St e) with | true => Txt.slice (St l) none (some (((St l).length : Int) - (g : Int))) | false => lessP (St l) (strsOf r)) = St (if sf e l then l.take (l.length - g) else lessL l r)
    rw [ends_St]
    cases q : sf e l with
    | true =>
      have q' : e.isSuffixOf l = true := q
      rw [q', if_pos rfl]
      have hl : e.length ≤ l.length := (List.isSuffixOf_iff_suffix.mp q').length_le
      show Txt.slice (St l) none (some (((St l).length : Int) - (g : Int))) = _
      rw [show (((St l).length : Int) - (g : Int)) = ((l.length - g : Nat) : Int) by rw [St_len]; omega, slice_0j]
    | false =>
      have q' : e.isSuffixOf l = false := q
      rw [q', if_neg (by decide)]
      exact ih
theorem longB_St (l : List Nat) : longB (St l) = lng l := by
  unfold longB lng signs cnt
  rw [List.length_map, St_cps]
  apply decide_eq_decide.mpr
  omega
noncomputable def lessF (op : Bool) (lost rest less : List Nat) : List Nat := if op && !(less == rest) && lng less then lost ++ (secondL less).1 else lost ++ less
noncomputable def lessD (op : Bool) (kd : Nat) (lost rest : List Nat) : List Nat := lessF op lost rest (if lng rest then lessL rest (borneL kd) else rest)
noncomputable def stC (l : List Nat) : List Nat := if (firstL l).2.2 = 0 then lessD false (secondL l).2 [] (secondL l).1 else lessD true (firstL l).2.2 (firstL l).1 (firstL l).2.1
noncomputable def stB (l : List Nat) : List Nat := if lng l then stC l else l
noncomputable def stA (l : List Nat) : List Nat := stB (if lng l then lessL l ownsL else l)
noncomputable def stemL (l : List Nat) : List Nat := stA (if lng l then lessL l partsL else l)

theorem lessL_le (l : List Nat) : ∀ (ps : List (List Nat × Nat)), (lessL l ps).length ≤ l.length
  | [] => Nat.le_refl _
  | (e, g) :: r => by
    unfold lessL
    split
    · rw [List.length_take]; omega
    · exact lessL_le l r
theorem first_le (l : List Nat) : (firstL l).1.length ≤ 1 ∧ (firstL l).2.1.length ≤ l.length := by
  have fs : (fsL l).1.length ≤ 1 ∧ (fsL l).2.1.length ≤ l.length := by
    unfold fsL
    repeat' split
    all_goals first | exact ⟨by simp, by simp⟩ | exact ⟨by simp, Nat.le_refl _⟩
  unfold firstL
  repeat' split
  all_goals first | exact fs | exact ⟨by simp, by simp only [List.length_drop]; omega⟩
theorem second_le (l : List Nat) : (secondL l).1.length ≤ l.length := by
  unfold secondL
  repeat' split
  all_goals first | exact Nat.le_refl _ | (simp only [List.length_drop]; omega)
section
variable {R : Type}
theorem lgY_St {l : List Nat} (h : l.length ≤ 1000) (a b : Option R) : lgY (St l) a b = if lng l then a else b := by
  unfold lgY
  rw [St_len, Nat.ble_eq_true_of_le h, longB_St]
  cases lng l <;> rfl
theorem lgN_St {l : List Nat} (h : l.length ≤ 1000) (a b : Option R) : lgN (St l) a b = if lng l then a else b := by
  unfold lgN
  rw [St_len, Nat.ble_eq_true_of_le h, longB_St]
  cases lng l <;> rfl
end
variable (t : Tel)
noncomputable def retS (l : List Nat) : Option (V × Tel) := some (.str (St l), t)
theorem lawE_St {a b : List Nat} (ha : a.length ≤ 1) (hb : b.length ≤ 1000) : lawE t (St a) (St b) = retS t (a ++ b) := by
  unfold lawE
  rw [St_len, St_len, Nat.ble_eq_true_of_le (by omega), St_app]
  rfl
theorem lawF_St (op : Bool) {lost rest less : List Nat} (h1 : lost.length ≤ 1) (h3 : less.length ≤ 1000) : lawF t op (St lost) (St rest) (St less) = retS t (lessF op lost rest less) := by
  unfold lawF lessF
  have hs := second_le less
  rw [St_beq, lgY_St h3, lawE_St t h1 h3]
  have e : scnd (St less) (lawE t (St lost)) (lawE t (St lost)) (lawE t (St lost)) = retS t (lost ++ (secondL less).1) := by
    rw [← lawE_St t h1 (b := (secondL less).1) (by omega)]
    rcases second_kd less with h | h | h
    · rw [scnd_0 h]
    · rw [scnd_2 h]
    · rw [scnd_4 h]
  rw [e]
  cases op with
  | false => rfl
  | true =>
    cases (less == rest) with
    | true => rfl
    | false => cases lng less <;> rfl
theorem lawD_St (op : Bool) (kd : Nat) (hk : borne kd = strsOf (borneL kd)) (hb : ∀ p ∈ borneL kd, p.2 ≤ p.1.length) {lost rest : List Nat} (h1 : lost.length ≤ 1) (h2 : rest.length ≤ 1000) : lawD t op kd (St lost) (St rest) = retS t (lessD op kd lost rest) := by
  unfold lawD lessD
  have hl := lessL_le rest (borneL kd)
  rw [hk, lessP_St _ _ hb, lgY_St h2, lawF_St t op h1 (by omega), lawF_St t op h1 h2]
  cases lng rest <;> rfl
theorem lawC_St {l : List Nat} (h : l.length ≤ 1000) : lawC t (St l) = retS t (stC l) := by
  unfold lawC stC
  obtain ⟨a1, a2⟩ := first_le l
  have b1 := second_le l
  rcases first_kd l with ⟨h0, h1, h2⟩ | h0 | h0
  · rw [frst_0 h0, h1, h2, if_pos h0]
    rcases second_kd l with g | g | g
    · rw [scnd_0 g, g]; exact lawD_St t false 0 borne_0 (by decide) (by decide) (by omega)
    · rw [scnd_2 g, g]; exact lawD_St t false 2 borne_2 (by decide) (by decide) (by omega)
    · rw [scnd_4 g, g]; exact lawD_St t false 4 borne_4 (by decide) (by decide) (by omega)
  · rw [frst_1 h0, h0, if_neg (by decide)]; exact lawD_St t true 1 borne_1 (by decide) a1 (by omega)
  · rw [frst_3 h0, h0, if_neg (by decide)]; exact lawD_St t true 3 borne_3 (by decide) a1 (by omega)
theorem lawB_St {l : List Nat} (h : l.length ≤ 1000) : lawB t (St l) = retS t (stB l) := by
  unfold lawB stB
  rw [lgN_St h, lawC_St t h]
  cases lng l <;> rfl
theorem lawA_St {l : List Nat} (h : l.length ≤ 1000) : lawA t (St l) = retS t (stA l) := by
  unfold lawA stA
  have hl := lessL_le l ownsL
  rw [owns_eq, lessP_St _ _ (by decide), lgY_St h, lawB_St t h, lawB_St t (by omega)]
  cases lng l <;> rfl
theorem F461 {l : List Nat} (h : l.length ≤ 1000) : gR sm3 80 461 3 [.str (St l)] t = some (.str (St (stemL l)), t) := by
  rw [s461]
  have hl := lessL_le l partsL
  rw [parts_eq, lessP_St _ _ (by decide), lgY_St h, lawA_St t h, lawA_St t (by omega)]
  unfold stemL
  cases lng l <;> rfl
end Mine
end
section
set_option autoImplicit false
set_option maxRecDepth 1000000
set_option linter.all false
namespace Mine
open PySem PySem.W PySem.Calls PyProof.Rows

/-! the search in a table -/
noncomputable abbrev Tb := List (List Int × Int × Int)
noncomputable def keysF (l : List (Str × Int × Int)) : Tb := l.map fun x => (x.1.cps.toList.map Int.ofNat, x.2.1, x.2.2)
noncomputable def keysB (l : List (Str × Int × Int)) : Tb := l.map fun x => ((x.1.cps.toList.map Int.ofNat).reverse, x.2.1, x.2.2)
section
variable {R : Type}
noncomputable def chr (cur : Str) (i : Int) (k : Int → Option R) : Option R := match decide (0 ≤ i) with
  | true => (match decide (i < (cur.length : Int)) with
    | true => (match Nat.beq (Txt.item cur i).length 1 with
      | true => k (((Txt.item cur i).cps.getD 0 0 : Nat) : Int)
      | false => none)
    | false => none)
  | false => none
noncomputable def inn (e : Int → Bool) (g : Int → (Int → Option R) → Option R) (k : Int → Int → Option R) : List Int → Int → Int → Option R
  | [], common, diff => k diff common
  | q :: ks, common, diff => match e common with
    | true => k (-1) common
    | false => g common fun x => match !decide (x - q = 0) with
      | true => k (x - q) common
      | false => inn e g k ks (common + 1) (x - q)
noncomputable def nthT (t : Tb) (i : Int) : List Int × Int × Int := t.getD i.toNat ([], 0, 0)
noncomputable def out (e : Int → Bool) (g : Int → (Int → Option R) → Option R) (t : Tb) (fin : Int → Int → Option R) : Nat → Int → Int → Int → Int → Bool → Option R
  | 0, _, _, _, _, _ => none
  | n + 1, i, j, ci, cj, first =>
    let k := i + (j - i) / 2
    let common := match decide (cj < ci) with | true => cj | false => ci
    inn e g (fun diff common =>
      let nx (i j ci cj : Int) : Option R := match decide (j - i ≤ 1) with
        | true => (match decide (0 < i) with
          | true => fin i ci
          | false => (match decide (j = i) with
            | true => fin i ci
            | false => (match first with
              | true => fin i ci
              | false => out e g t fin n i j ci cj true)))
        | false => out e g t fin n i j ci cj first
      match decide (diff < 0) with
      | true => nx i k ci common
      | false => nx k j common cj) ((nthT t k).1.drop common.toNat) common 0
noncomputable def sec (t : Tb) (hit : Int → Int → Option R) (miss : Option R) : Nat → Int → Int → Option R
  | 0, _, _ => none
  | n + 1, i, ci => match decide (((nthT t i).1.length : Int) ≤ ci) with
    | true => hit (nthT t i).1.length (nthT t i).2.2
    | false => match decide ((nthT t i).2.1 < 0) with
      | true => miss
      | false => sec t hit miss n (nthT t i).2.1 ci
noncomputable def faF (cur : Str) (c l : Int) (t : Tb) (hit : Int → Int → Option R) (miss : Option R) : Option R :=
  out (fun i => decide (c + i = l)) (fun i => chr cur (c + i)) t (sec t hit miss 12) 12 0 (t.length : Int) 0 0 false
noncomputable def faB (cur : Str) (c lb : Int) (t : Tb) (hit : Int → Int → Option R) (miss : Option R) : Option R :=
  out (fun i => decide (c - i = lb)) (fun i => chr cur (c - 1 - i)) t (sec t hit miss 12) 12 0 (t.length : Int) 0 0 false
variable (n d : Nat) (sc : Scope) (loc : List (Str × V)) (cur : Str) (c l lb b kt m p : Int) (k : V → Sg → Option R)
theorem fb0 : run (wdS sums) 150 (.call 140 [.self, tab a0] ⟨sc, d + 1, loc, ⟨cur, c, l, lb, b, kt, m, p⟩⟩ k) =
    faB cur c lb (keysB a0) (fun len res => k (.int res) ⟨sc, d + 1, loc, ⟨cur, c - len, l, lb, b, kt, m, p⟩⟩) (k (.int 0) ⟨sc, d + 1, loc, ⟨cur, c, l, lb, b, kt, m, p⟩⟩) := by kernel_rfl
theorem fb1 : run (wdS sums) 150 (.call 140 [.self, tab a1] ⟨sc, d + 1, loc, ⟨cur, c, l, lb, b, kt, m, p⟩⟩ k) =
    faB cur c lb (keysB a1) (fun len res => k (.int res) ⟨sc, d + 1, loc, ⟨cur, c - len, l, lb, b, kt, m, p⟩⟩) (k (.int 0) ⟨sc, d + 1, loc, ⟨cur, c, l, lb, b, kt, m, p⟩⟩) := by kernel_rfl
theorem fb2 : run (wdS sums) 150 (.call 140 [.self, tab a2] ⟨sc, d + 1, loc, ⟨cur, c, l, lb, b, kt, m, p⟩⟩ k) =
    faB cur c lb (keysB a2) (fun len res => k (.int res) ⟨sc, d + 1, loc, ⟨cur, c - len, l, lb, b, kt, m, p⟩⟩) (k (.int 0) ⟨sc, d + 1, loc, ⟨cur, c, l, lb, b, kt, m, p⟩⟩) := by kernel_rfl
end
end Mine
end
section
set_option autoImplicit false
set_option maxRecDepth 1000000
set_option linter.all false
namespace Mine
open PySem PySem.W PySem.Calls PyProof.Rows

/-! find_among's loops over any table, turn by turn -/
noncomputable def whlIn : Stmt → Expr × List Stmt
  | .While t b _ _ => (t, b)
  | _ => (.Name "" default, [])
noncomputable def forIn_ : Stmt → Expr × List Stmt
  | .For t _ b _ _ => (t, b)
  | _ => (.Name "" default, [])
noncomputable def wF : Expr × List Stmt := whlIn (stN (fnB (mSt 2 14)) 7)
noncomputable def w2F : Expr × List Stmt := whlIn (stN (fnB (mSt 2 14)) 8)
noncomputable def lF : Expr × List Stmt := forIn_ (stN wF.2 4)
noncomputable def locF (vs : List V) (i j c l ci cj : Int) (first : Bool) (k diff common w i2 : V) : List (Str × V) :=
  [("self", .self), ("v", .lst vs), ("i", .int i), ("j", .int j), ("c", .int c), ("l", .int l), ("common_i", .int ci), ("common_j", .int cj), ("first_key_inspected", .bool first), ("k", k), ("diff", diff), ("common", common), ("w", w), ("i2", i2)]
section
variable {R : Type}
noncomputable def KT2 (n : Nat) (K : Ks R) : Ks R := { K with next := fun σ => run (wdS sums) n (.whl wF.1 wF.2 σ K), cont := fun σ => run (wdS sums) n (.whl wF.1 wF.2 σ K), brk := K.next, exc := fun _ _ => none }
noncomputable def KT3 (n : Nat) (K : Ks R) : Ks R := { K with next := fun σ => run (wdS sums) n (.whl w2F.1 w2F.2 σ K), cont := fun σ => run (wdS sums) n (.whl w2F.1 w2F.2 σ K), brk := K.next, exc := fun _ _ => none }
variable (n d : Nat) (vs : List V) (t : Tel) (i j c l ci cj cm q : Int) (first : Bool) (vk vd vc vw vi : V) (s : Str) (sub res : Int) (items : List V) (K : Ks R)
noncomputable abbrev sF (d : Nat) (t : Tel) (loc : List (Str × V)) : Sg := ⟨fnS (mSt 2 14), d, loc, t⟩
theorem x1 : run (wdS sums) (n + 4) (.whl wF.1 wF.2 (sF d t (locF vs i j c l ci cj first vk vd vc vw vi)) K) = run (wdS sums) (n + 3) (.exs wF.2 (sF d t (locF vs i j c l ci cj first vk vd vc vw vi)) (KT2 (n + 3) K)) := by kernel_rfl
theorem x2 : run (wdS sums) (n + 8) (.exs wF.2 (sF d t (locF vs i j c l ci cj first vk vd vc vw vi)) K) = run (wdS sums) (n + 7) (.exs (wF.2.drop 1) (sF d t (locF vs i j c l ci cj first (.int (i + (j - i) / 2)) vd vc vw vi)) K) := by kernel_rfl
theorem x3 : run (wdS sums) (n + 3) (.exs (wF.2.drop 1) (sF d t (locF vs i j c l ci cj first vk vd vc vw vi)) K) = run (wdS sums) (n + 2) (.exs (wF.2.drop 2) (sF d t (locF vs i j c l ci cj first vk (.int 0) vc vw vi)) K) := by kernel_rfl
theorem x4 : run (wdS sums) (n + 8) (.exs (wF.2.drop 2) (sF d t (locF vs i j c l ci cj first vk vd vc vw vi)) K) = (match decide (cj < ci) with
   | true => run (wdS sums) (n + 7) (.exs (wF.2.drop 3) (sF d t (locF vs i j c l ci cj first vk vd (.int cj) vw vi)) K)
   | false => run (wdS sums) (n + 7) (.exs (wF.2.drop 3) (sF d t (locF vs i j c l ci cj first vk vd (.int ci) vw vi)) K)) := by kernel_rfl
theorem x5 : run (wdS sums) (n + 5) (.exs (wF.2.drop 3) (sF d t (locF vs i j c l ci cj first (.int q) vd vc vw vi)) K) =
   itemV (.lst vs) q fun w => match (sF d t (locF vs i j c l ci cj first (.int q) vd vc vw vi)).put "w" w with
     | some σ => run (wdS sums) (n + 4) (.exs (wF.2.drop 4) σ K)
     | none => none := by kernel_rfl
/-- from the entry to its signs -/
theorem i2 : run (wdS sums) (n + 8) (.exs (wF.2.drop 4) (sF d t (locF vs i j c l ci cj first vk vd (.int cm) (.am s sub res) vi)) K) =
    (match inR cm, inR (s.length : Int) with
    | true, true => run (wdS sums) (n + 7) (.fors lF.1 (rangeUp ((s.length : Int) - cm).toNat cm) lF.2 (sF d t (locF vs i j c l ci cj first vk vd (.int cm) (.am s sub res) vi))
        { K with next := fun σ => run (wdS sums) (n + 7) (.exs (wF.2.drop 5) σ K), exc := fun _ _ => none })
    | _, _ => none) := by kernel_rfl
/-- the entry's signs, one by one -/
theorem i3 : run (wdS sums) (n + 20) (.fors lF.1 (.int q :: items) lF.2 (sF d t (locF vs i j c l ci cj first vk vd (.int cm) (.am s sub res) vi)) K) =
    (match decide (c + cm = l) with
    | true => K.next (sF d t (locF vs i j c l ci cj first vk (.int (-1)) (.int cm) (.am s sub res) (.int q)))
    | false => chr t.cur (c + cm) fun x => chr s q fun y => match !decide (x - y = 0) with
      | true => K.next (sF d t (locF vs i j c l ci cj first vk (.int (x - y)) (.int cm) (.am s sub res) (.int q)))
      | false => run (wdS sums) (n + 19) (.fors lF.1 items lF.2 (sF d t (locF vs i j c l ci cj first vk (.int (x - y)) (.int (cm + 1)) (.am s sub res) (.int q))) K)) := by kernel_rfl
theorem i3e : run (wdS sums) (n + 20) (.fors lF.1 [] lF.2 (sF d t (locF vs i j c l ci cj first vk vd vc vw vi)) K) = K.next (sF d t (locF vs i j c l ci cj first vk vd vc vw vi)) := by kernel_rfl
/-- behind the signs -/
theorem i4 (df : Int) : run (wdS sums) (n + 14) (.exs (wF.2.drop 5) (sF d t (locF vs i j c l ci cj first (.int q) (.int df) (.int cm) vw vi)) K) =
    (let nx (i j ci cj : Int) : Option R := match decide (j - i ≤ 1) with
        | true => (match decide (0 < i) with
          | true => K.brk (sF d t (locF vs i j c l ci cj first (.int q) (.int df) (.int cm) vw vi))
          | false => (match decide (j = i) with
            | true => K.brk (sF d t (locF vs i j c l ci cj first (.int q) (.int df) (.int cm) vw vi))
            | false => (match first with
              | true => K.brk (sF d t (locF vs i j c l ci cj first (.int q) (.int df) (.int cm) vw vi))
              | false => K.next (sF d t (locF vs i j c l ci cj true (.int q) (.int df) (.int cm) vw vi)))))
        | false => K.next (sF d t (locF vs i j c l ci cj first (.int q) (.int df) (.int cm) vw vi))
      match decide (df < 0) with
      | true => nx i q ci cm
      | false => nx q j cm cj) := by kernel_rfl
/-- the second loop -/
theorem y1 : run (wdS sums) (n + 20) (.whl w2F.1 w2F.2 (sF d t (locF vs i j c l ci cj first vk vd vc vw vi)) K) =
   itemV (.lst vs) i fun w => match (sF d t (locF vs i j c l ci cj first vk vd vc vw vi)).put "w" w with
     | some σ => run (wdS sums) (n + 18) (.exs (w2F.2.drop 1) σ (KT3 (n + 19) K))
     | none => none := by kernel_rfl
theorem y2 : run (wdS sums) (n + 18) (.exs (w2F.2.drop 1) (sF d t (locF vs i j c l ci cj first vk vd vc (.am s sub res) vi)) K) =
   (match decide ((s.length : Int) ≤ ci) with
   | true => K.ret (.int res) (sF d { t with cursor := c + (s.length : Int) } (locF vs i j c l ci cj first vk vd vc (.am s sub res) vi))
   | false => (match decide (sub < 0) with
     | true => K.ret (.int 0) (sF d t (locF vs sub j c l ci cj first vk vd vc (.am s sub res) vi))
     | false => K.next (sF d t (locF vs sub j c l ci cj first vk vd vc (.am s sub res) vi)))) := by kernel_rfl
noncomputable def kRF (sc : Scope) (d : Nat) (loc : List (Str × V)) (k : V → Sg → Option R) : Ks R := { noneAll R with next := fun σ' => k .none ⟨sc, d, loc, σ'.tel⟩, ret := fun v σ' => k v ⟨sc, d, loc, σ'.tel⟩ }
noncomputable def KF2 (n : Nat) (K : Ks R) : Ks R := { K with next := fun σ => run (wdS sums) n (.exs ((fnB (mSt 2 14)).drop 9) σ K), exc := fun _ _ => none }
noncomputable def KF1 (n : Nat) (K : Ks R) : Ks R := { K with next := fun σ => run (wdS sums) n (.exs ((fnB (mSt 2 14)).drop 8) σ K), exc := fun _ _ => none }
variable (sc : Scope) (loc : List (Str × V)) (k : V → Sg → Option R)
theorem z1 : run (wdS sums) (n + 10) (.call 133 [.self, .lst vs] ⟨sc, d + 1, loc, t⟩ k) =
   run (wdS sums) (n + 1) (.whl wF.1 wF.2 (sF d t (locF vs 0 (vs.length : Int) t.cursor t.limit 0 0 false .undef .undef .undef .undef .undef)) (KF1 (n + 1) (kRF sc (d + 1) loc k))) := by kernel_rfl
theorem z2 : (KF1 (n + 2) K).next (sF d t (locF vs i j c l ci cj first vk vd vc vw vi)) = run (wdS sums) (n + 1) (.whl w2F.1 w2F.2 (sF d t (locF vs i j c l ci cj first vk vd vc vw vi)) (KF2 (n + 1) K)) := by kernel_rfl
end
end Mine
end
section
set_option autoImplicit false
set_option maxRecDepth 1000000
set_option linter.all false
namespace Mine
open PySem PySem.W PySem.Calls PyProof.Rows
theorem chr_mono {R : Type} {cur : Str} {i : Int} {r : R} {f g : Int → Option R} (h : ∀ x, f x = some r → g x = some r) (hf : chr cur i f = some r) : chr cur i g = some r := by
  unfold chr at hf ⊢
  cases q1 : decide (0 ≤ i) with
  | false => rw [q1] at hf; cases hf
  | true =>
    rw [q1] at hf
    cases q2 : decide (i < (cur.length : Int)) with
    | false => rw [q2] at hf; cases hf
    | true =>
      rw [q2] at hf
      dsimp only at hf ⊢
      cases q3 : Nat.beq (Txt.item cur i).length 1 with
      | false => rw [q3] at hf; cases hf
      | true => rw [q3] at hf; exact h _ hf
theorem chr_in {R : Type} (s : Str) (j : Nat) (h : j < s.cps.toList.length) (f : Int → Option R) : chr s (j : Int) f = f ((s.cps.toList[j] : Nat) : Int) := by
  have e := item_St s.cps.toList j h
  rw [← St_of] at e
  unfold chr
  rw [decide_eq_true (show (0 : Int) ≤ j by omega), decide_eq_true (show (j : Int) < (s.length : Int) by show (j : Int) < (s.cps.toList.length : Int); omega), e]
  rfl
noncomputable abbrev vsT (tb : List (Str × Int × Int)) : List V := tb.map fun x => .am x.1 x.2.1 x.2.2
theorem nth_tab : ∀ {tb : List (Str × Int × Int)} {j : Nat}, j < tb.length → ∃ x, x ∈ tb ∧ nthV (vsT tb) j = some (.am x.1 x.2.1 x.2.2) ∧ (keysF tb).getD j ([], 0, 0) = (x.1.cps.toList.map Int.ofNat, x.2.1, x.2.2)
  | [], j, h => absurd h (Nat.not_lt_zero _)
  | y :: r, 0, h => ⟨y, .head _, rfl, rfl⟩
  | y :: r, j + 1, h => by
    obtain ⟨x, h1, h2, h3⟩ := nth_tab (tb := r) (j := j) (by rw [List.length_cons] at h; omega)
    exact ⟨x, .tail _ h1, h2, h3⟩
theorem item_tab {R : Type} {tb : List (Str × Int × Int)} {i : Int} (h0 : 0 ≤ i) (h : i < tb.length) : ∃ x, x ∈ tb ∧ (∀ k : V → Option R, itemV (.lst (vsT tb)) i k = k (.am x.1 x.2.1 x.2.2)) ∧ nthT (keysF tb) i = (x.1.cps.toList.map Int.ofNat, x.2.1, x.2.2) := by
  obtain ⟨x, h1, h2, h3⟩ := nth_tab (tb := tb) (j := i.toNat) (by omega)
  refine ⟨x, h1, fun k => ?_, h3⟩
  unfold itemV
  dsimp only
  rw [decide_eq_true h0, h2]
theorem inR_ok {i : Int} (h0 : 0 ≤ i) (h1 : i ≤ 30) : inR i = true := by
  unfold inR
  rw [decide_eq_true (show -10 ≤ i by omega), decide_eq_true (show i ≤ 2000000 by omega)]
  rfl
section
variable {R : Type} {r : R} {d : Nat} {vs : List V} {t : Tel} {i j c l ci cj : Int} {first : Bool} {vk : V} {s : Str} {sub res : Int} {K : Ks R} {Φ : Int → Int → Option R}
theorem in_ok (hs : s.cps.toList.length ≤ 30) (hK : ∀ df cm vi, 0 ≤ cm → cm ≤ 30 → Φ df cm = some r → K.next (sF d t (locF vs i j c l ci cj first vk (.int df) (.int cm) (.am s sub res) vi)) = some r) :
    ∀ (ks : List Nat) (n : Nat) (cm df : Int) (vi : V), 0 ≤ cm → cm ≤ 30 → s.cps.toList.drop cm.toNat = ks → inn (fun i => decide (c + i = l)) (fun i => chr t.cur (c + i)) Φ (ks.map Int.ofNat) cm df = some r →
      run (wdS sums) (n + ks.length + 20) (.fors lF.1 (rangeUp ks.length cm) lF.2 (sF d t (locF vs i j c l ci cj first vk (.int df) (.int cm) (.am s sub res) vi)) K) = some r
  | [], n, cm, df, vi, h0, h1, hd, h => by
    rw [show rangeUp ([] : List Nat).length cm = [] from rfl, i3e]
    exact hK df cm vi h0 h1 h
  | q :: ks, n, cm, df, vi, h0, h1, hd, h => by
    have hlt : cm.toNat < s.cps.toList.length := by
      have := congrArg List.length hd
      rw [List.length_drop, List.length_cons] at this
      omega
    have hd2 := List.drop_eq_getElem_cons hlt
    rw [hd] at hd2
    obtain ⟨hq, hd3⟩ := List.cons.inj hd2
    have hcm : (cm.toNat : Int) = cm := by omega
    have hd4 : s.cps.toList.drop (cm + 1).toNat = ks := by rw [hd3, show (cm + 1).toNat = cm.toNat + 1 by omega]
    rw [show rangeUp (q :: ks).length cm = .int cm :: rangeUp ks.length (cm + 1) from rfl, i3]
    have h' : (match decide (c + cm = l) with
      | true => Φ (-1) cm
      | false => chr t.cur (c + cm) fun x => match !decide (x - (q : Int) = 0) with
        | true => Φ (x - (q : Int)) cm
        | false => inn (fun i => decide (c + i = l)) (fun i => chr t.cur (c + i)) Φ (ks.map Int.ofNat) (cm + 1) (x - (q : Int))) = some r := h
    cases q1 : decide (c + cm = l) with
    | true =>
      rw [q1] at h'
      exact hK _ _ _ h0 h1 h'
    | false =>
      rw [q1] at h'
      refine chr_mono (fun x hx => ?_) h'
      have e2 := chr_in (R := R) s cm.toNat hlt (fun y => match !decide (x - y = 0) with
        | true => K.next (sF d t (locF vs i j c l ci cj first vk (.int (x - y)) (.int cm) (.am s sub res) (.int cm)))
        | false => run (wdS sums) (n + ks.length + 1 + 19) (.fors lF.1 (rangeUp ks.length (cm + 1)) lF.2 (sF d t (locF vs i j c l ci cj first vk (.int (x - y)) (.int (cm + 1)) (.am s sub res) (.int cm))) K))
      rw [hcm, ← hq] at e2
      refine Eq.trans e2 ?_
      cases q2 : !decide (x - (q : Int) = 0) with
      | true =>
        rw [q2] at hx
        exact hK _ _ _ h0 h1 hx
      | false =>
        rw [q2] at hx
        exact in_ok hs hK ks n (cm + 1) _ _ (by omega) (by omega) hd4 hx
end
section
variable {R : Type} {r : R} {d : Nat} {tb : List (Str × Int × Int)} {t : Tel} {c l : Int} {K : Ks R} {fin : Int → Int → Option R}
noncomputable def outK (e : Int → Bool) (g : Int → (Int → Option R) → Option R) (t : Tb) (fin : Int → Int → Option R) (n : Nat) (i j ci cj : Int) (first : Bool) (k diff common : Int) : Option R :=
  let nx (i j ci cj : Int) : Option R := match decide (j - i ≤ 1) with
    | true => (match decide (0 < i) with
      | true => fin i ci
      | false => (match decide (j = i) with
        | true => fin i ci
        | false => (match first with
          | true => fin i ci
          | false => out e g t fin n i j ci cj true)))
    | false => out e g t fin n i j ci cj first
  match decide (diff < 0) with
  | true => nx i k ci common
  | false => nx k j common cj
theorem out_succ (e : Int → Bool) (g : Int → (Int → Option R) → Option R) (t : Tb) (fin : Int → Int → Option R) (n : Nat) (i j ci cj : Int) (first : Bool) :
    out e g t fin (n + 1) i j ci cj first = (match decide (cj < ci) with
      | true => inn e g (outK e g t fin n i j ci cj first (i + (j - i) / 2)) ((nthT t (i + (j - i) / 2)).1.drop cj.toNat) cj 0
      | false => inn e g (outK e g t fin n i j ci cj first (i + (j - i) / 2)) ((nthT t (i + (j - i) / 2)).1.drop ci.toNat) ci 0) := by
  show inn e g (outK e g t fin n i j ci cj first (i + (j - i) / 2)) ((nthT t (i + (j - i) / 2)).1.drop (match decide (cj < ci) with | true => cj | false => ci).toNat) (match decide (cj < ci) with | true => cj | false => ci) 0 = _
  cases decide (cj < ci) <;> rfl
theorem out_ok (hv : ∀ x ∈ tb, x.1.cps.toList.length ≤ 30)
    (hK : ∀ i j ci cj first vk vd vc vw vi, 0 ≤ i → i < (tb.length : Int) → fin i ci = some r → K.next (sF d t (locF (vsT tb) i j c l ci cj first vk vd vc vw vi)) = some r) :
    ∀ (n : Nat) (i j ci cj : Int) (first : Bool) (vk vd vc vw vi : V), 0 ≤ i → i ≤ j → j ≤ tb.length → i < tb.length → 0 ≤ ci → ci ≤ 30 → 0 ≤ cj → cj ≤ 30 →
      out (fun i => decide (c + i = l)) (fun i => chr t.cur (c + i)) (keysF tb) fin n i j ci cj first = some r →
      run (wdS sums) (n + 80) (.whl wF.1 wF.2 (sF d t (locF (vsT tb) i j c l ci cj first vk vd vc vw vi)) K) = some r
  | 0, i, j, ci, cj, first, vk, vd, vc, vw, vi, _, _, _, _, _, _, _, _, h => by cases h
  | n + 1, i, j, ci, cj, first, vk, vd, vc, vw, vi, h0, h1, h2, h3, c0, c1, d0, d1, h => by
    have ih := out_ok hv hK n
    rw [show n + 1 + 80 = (n + 77) + 4 by omega, x1, show n + 77 + 3 = (n + 72) + 8 by omega, x2, show n + 72 + 7 = (n + 76) + 3 by omega, x3, show n + 76 + 2 = (n + 70) + 8 by omega, x4]
    rw [out_succ] at h
    have f0 : 0 ≤ i + (j - i) / 2 := by omega
    have f1 : i ≤ i + (j - i) / 2 := by omega
    have f2 : i + (j - i) / 2 ≤ j := by omega
    have f3 : i + (j - i) / 2 < tb.length := by omega
    obtain ⟨x, hx, hit, hnth⟩ := item_tab (R := R) (tb := tb) (i := i + (j - i) / 2) f0 f3
    have hxl := hv x hx
    rw [hnth] at h
    have key : ∀ cm : Int, 0 ≤ cm → cm ≤ 30 → inn (fun i => decide (c + i = l)) (fun i => chr t.cur (c + i)) (outK (fun i => decide (c + i = l)) (fun i => chr t.cur (c + i)) (keysF tb) fin n i j ci cj first (i + (j - i) / 2)) ((x.1.cps.toList.map Int.ofNat).drop cm.toNat) cm 0 = some r →
        run (wdS sums) (n + 70 + 7) (.exs (wF.2.drop 3) (sF d t (locF (vsT tb) i j c l ci cj first (.int (i + (j - i) / 2)) (.int 0) (.int cm) vw vi)) (KT2 (n + 77 + 3) K)) = some r := by
      intro cm m0 m1 hin
      rw [show n + 70 + 7 = (n + 72) + 5 by omega, x5, hit]
      refine Eq.trans (b := run (wdS sums) (n + 68 + 8) (.exs (wF.2.drop 4) (sF d t (locF (vsT tb) i j c l ci cj first (.int (i + (j - i) / 2)) (.int 0) (.int cm) (.am x.1 x.2.1 x.2.2) vi)) (KT2 (n + 77 + 3) K))) rfl ?_
      rw [i2, inR_ok m0 m1, inR_ok (i := (x.1.length : Int)) (by omega) (by show ((x.1.cps.toList.length : Nat) : Int) ≤ 30; omega)]
      have hlen : ((x.1.length : Int) - cm).toNat = (x.1.cps.toList.drop cm.toNat).length := by
        rw [List.length_drop]
        show (((x.1.cps.toList.length : Nat) : Int) - cm).toNat = _
        omega
      dsimp only
      rw [hlen]
      have hdl : (x.1.cps.toList.drop cm.toNat).length ≤ 30 := by rw [List.length_drop]; omega
      rw [show n + 68 + 7 = (n + 55 - (x.1.cps.toList.drop cm.toNat).length) + (x.1.cps.toList.drop cm.toNat).length + 20 by omega]
      rw [← List.map_drop] at hin
      refine in_ok hxl (fun df cm' vi' m0' m1' hΦ => ?_) _ _ cm 0 vi m0 m1 rfl hin
      show run (wdS sums) _ (.exs (wF.2.drop 5) _ _) = some r
      rw [show n + 55 - (x.1.cps.toList.drop cm.toNat).length + (x.1.cps.toList.drop cm.toNat).length + 20 = (n + 61) + 14 by omega, i4]
      dsimp only
      have hbr : ∀ i' ci' j' cj', 0 ≤ i' → i' < (tb.length : Int) → fin i' ci' = some r → (KT2 (n + 77 + 3) K).brk (sF d t (locF (vsT tb) i' j' c l ci' cj' first (.int (i + (j - i) / 2)) (.int df) (.int cm') (.am x.1 x.2.1 x.2.2) vi')) = some r := fun i' ci' j' cj' a1 a2 a3 => hK _ _ _ _ _ _ _ _ _ _ a1 a2 a3
      unfold outK at hΦ
      dsimp only at hΦ
      cases q1 : decide (df < 0) with
      | true =>
        rw [q1] at hΦ
        dsimp only at hΦ ⊢
        cases q2 : decide (i + (j - i) / 2 - i ≤ 1) with
        | false =>
          rw [q2] at hΦ
          exact ih _ _ _ _ _ _ _ _ _ _ h0 f1 (Int.le_of_lt f3) h3 c0 c1 m0' m1' hΦ
        | true =>
          rw [q2] at hΦ
          dsimp only at hΦ ⊢
          cases q3 : decide (0 < i) with
          | true => rw [q3] at hΦ; exact hbr _ _ _ _ h0 h3 hΦ
          | false =>
            rw [q3] at hΦ
            dsimp only at hΦ ⊢
            cases q4 : decide (i + (j - i) / 2 = i) with
            | true => rw [q4] at hΦ; exact hbr _ _ _ _ h0 h3 hΦ
            | false =>
              rw [q4] at hΦ
              cases first with
              | true => exact hbr _ _ _ _ h0 h3 hΦ
              | false => exact ih _ _ _ _ _ _ _ _ _ _ h0 f1 (Int.le_of_lt f3) h3 c0 c1 m0' m1' hΦ
      | false =>
        rw [q1] at hΦ
        dsimp only at hΦ ⊢
        cases q2 : decide (j - (i + (j - i) / 2) ≤ 1) with
        | false =>
          rw [q2] at hΦ
          exact ih _ _ _ _ _ _ _ _ _ _ f0 f2 h2 f3 m0' m1' d0 d1 hΦ
        | true =>
          rw [q2] at hΦ
          dsimp only at hΦ ⊢
          cases q3 : decide (0 < i + (j - i) / 2) with
          | true => rw [q3] at hΦ; exact hbr _ _ _ _ f0 f3 hΦ
          | false =>
            rw [q3] at hΦ
            dsimp only at hΦ ⊢
            cases q4 : decide (j = i + (j - i) / 2) with
            | true => rw [q4] at hΦ; exact hbr _ _ _ _ f0 f3 hΦ
            | false =>
              rw [q4] at hΦ
              cases first with
              | true => exact hbr _ _ _ _ f0 f3 hΦ
              | false => exact ih _ _ _ _ _ _ _ _ _ _ f0 f2 h2 f3 m0' m1' d0 d1 hΦ
    cases q : decide (cj < ci) with
    | true =>
      rw [q] at h
      exact key cj d0 d1 h
    | false =>
      rw [q] at h
      exact key ci c0 c1 h
theorem sec_ok (hv : ∀ x ∈ tb, x.2.1 < (tb.length : Int)) {hit : Int → Int → Option R} {miss : Option R}
    (hh : ∀ len res loc', hit len res = some r → K.ret (.int res) (sF d { t with cursor := c + len } loc') = some r) (hm : ∀ loc', miss = some r → K.ret (.int 0) (sF d t loc') = some r) (f : Nat) :
    ∀ (n : Nat) (i j ci cj : Int) (first : Bool) (vk vd vc vw vi : V), 0 ≤ i → i < tb.length → sec (keysF tb) hit miss n i ci = some r →
      run (wdS sums) (n + f + 20) (.whl w2F.1 w2F.2 (sF d t (locF (vsT tb) i j c l ci cj first vk vd vc vw vi)) K) = some r
  | 0, i, j, ci, cj, first, vk, vd, vc, vw, vi, _, _, h => by cases h
  | n + 1, i, j, ci, cj, first, vk, vd, vc, vw, vi, h0, h1, h => by
    obtain ⟨x, hx, hit', hnth⟩ := item_tab (R := R) (tb := tb) (i := i) h0 h1
    unfold sec at h
    rw [hnth] at h
    dsimp only at h
    rw [show n + 1 + f = n + f + 1 by omega, y1, hit']
    refine Eq.trans (b := run (wdS sums) (n + f + 1 + 18) (.exs (w2F.2.drop 1) (sF d t (locF (vsT tb) i j c l ci cj first vk vd vc (.am x.1 x.2.1 x.2.2) vi)) (KT3 (n + f + 1 + 19) K))) rfl ?_
    rw [y2]
    have hlen : (((x.1.cps.toList.map Int.ofNat).length : Nat) : Int) = (x.1.length : Int) := by
      rw [List.length_map]; rfl
    rw [hlen] at h
    cases q1 : decide ((x.1.length : Int) ≤ ci) with
    | true =>
      rw [q1] at h
      exact hh _ _ _ h
    | false =>
      rw [q1] at h
      dsimp only at h ⊢
      cases q2 : decide (x.2.1 < 0) with
      | true =>
        rw [q2] at h
        exact hm _ h
      | false =>
        rw [q2] at h
        exact sec_ok hv hh hm f n _ _ _ _ _ _ _ _ _ _ (by have := of_decide_eq_false q2; omega) (hv x hx) h
end
theorem find_ok {R : Type} {r : R} (tb : List (Str × Int × Int)) (h1 : ∀ x ∈ tb, x.1.cps.toList.length ≤ 30) (h2 : ∀ x ∈ tb, x.2.1 < (tb.length : Int)) (h3 : 0 < tb.length) (d : Nat) (sc : Scope) (loc : List (Str × V)) (t : Tel) (k : V → Sg → Option R)
    (h : faF t.cur t.cursor t.limit (keysF tb) (fun len res => k (.int res) ⟨sc, d + 1, loc, { t with cursor := t.cursor + len }⟩) (k (.int 0) ⟨sc, d + 1, loc, t⟩) = some r) :
    run (wdS sums) 101 (.call 133 [.self, tab tb] ⟨sc, d + 1, loc, t⟩ k) = some r := by
  refine (z1 91 d (vsT tb) t sc loc k).trans ?_
  unfold faF at h
  have hl : (((keysF tb).length : Nat) : Int) = (tb.length : Int) := by unfold keysF; rw [List.length_map]
  have hl2 : (((vsT tb).length : Nat) : Int) = (tb.length : Int) := by rw [List.length_map]
  rw [hl] at h
  rw [hl2]
  refine out_ok (fin := sec (keysF tb) (fun len res => k (.int res) ⟨sc, d + 1, loc, { t with cursor := t.cursor + len }⟩) (k (.int 0) ⟨sc, d + 1, loc, t⟩) 12) h1 (fun i j ci cj first vk vd vc vw vi a1 a2 a3 => ?_) 12 0 tb.length 0 0 false _ _ _ _ _ (by omega) (by omega) (by omega) (by omega) (by omega) (by omega) (by omega) (by omega) h
  rw [show (91 + 1 : Nat) = 90 + 2 from rfl, z2]
  exact sec_ok h2 (fun len res loc' q => q) (fun loc' q => q) 59 12 _ _ _ _ _ _ _ _ _ _ a1 a2 a3
end Mine
end
section
set_option autoImplicit false
set_option maxRecDepth 100000
set_option linter.all false
namespace Mine
open PySem PySem.W PySem.Calls PyProof.Rows

/-! the search on lists -/
noncomputable def cmpL : List Nat → List Int → Int → Int → Int × Int
  | _, [], cm, df => (df, cm)
  | [], _ :: _, cm, _ => (-1, cm)
  | a :: u, q :: ks, cm, _ => match !decide ((a : Int) - q = 0) with
    | true => ((a : Int) - q, cm)
    | false => cmpL u ks (cm + 1) ((a : Int) - q)
section
variable {R : Type} {e : Int → Bool} {g : Int → (Int → Option R) → Option R}
theorem inn_eq {k : Int → Int → Option R} {u : List Nat} (he : ∀ i : Nat, i < u.length → e i = false) (he2 : e u.length = true) (hg : ∀ (i : Nat) (h : i < u.length) (f : Int → Option R), g i f = f (u[i] : Nat)) :
    ∀ (ks : List Int) (pre r : List Nat) (df : Int), u = pre ++ r → inn e g k ks pre.length df = k (cmpL r ks pre.length df).1 (cmpL r ks pre.length df).2
  | [], pre, r, df, hu => by cases r <;> rfl
  | q :: ks, pre, [], df, hu => by
    have : u.length = pre.length := by rw [hu]; simp
    unfold inn
    rw [← this, he2]
    rfl
  | q :: ks, pre, a :: r, df, hu => by
    have hl : pre.length < u.length := by rw [hu]; simp
    have ha : u[pre.length] = a := by simp [hu]
    unfold inn cmpL
    rw [he _ hl]
    dsimp only
    rw [hg _ hl, ha]
    cases h : !decide ((a : Int) - q = 0) with
    | true => rfl
    | false =>
      dsimp only
      have ih := inn_eq (k := k) he he2 hg ks (pre ++ [a]) r ((a : Int) - q) (by simp [hu])
      have el : ((pre ++ [a]).length : Int) = (pre.length : Int) + 1 := by simp
      rw [el] at ih
      exact ih
theorem cmpL_bound : ∀ (r : List Nat) (ks : List Int) (cm df : Int), cm ≤ (cmpL r ks cm df).2 ∧ (cmpL r ks cm df).2 ≤ cm + r.length
  | r, [], cm, df => by
    have : cmpL r [] cm df = (df, cm) := by cases r <;> rfl
    rw [this]; dsimp only; omega
  | [], q :: ks, cm, df => by show cm ≤ cm ∧ cm ≤ cm + 0; omega
  | a :: r, q :: ks, cm, df => by
    unfold cmpL
    cases h : !decide ((a : Int) - q = 0) with
    | true => dsimp only; rw [List.length_cons]; omega
    | false =>
      dsimp only
      have := cmpL_bound r ks (cm + 1) ((a : Int) - q)
      rw [List.length_cons]; omega
noncomputable def outL (u : List Nat) (t : Tb) : Nat → Int → Int → Int → Int → Bool → Option (Int × Int)
  | 0, _, _, _, _, _ => none
  | n + 1, i, j, ci, cj, first =>
    let k := i + (j - i) / 2
    let common := match decide (cj < ci) with | true => cj | false => ci
    let r := cmpL (u.drop common.toNat) ((nthT t k).1.drop common.toNat) common 0
    let nx (i j ci cj : Int) : Option (Int × Int) := match decide (j - i ≤ 1) with
        | true => (match decide (0 < i) with
          | true => some (i, ci)
          | false => (match decide (j = i) with
            | true => some (i, ci)
            | false => (match first with
              | true => some (i, ci)
              | false => outL u t n i j ci cj true)))
        | false => outL u t n i j ci cj first
    match decide (r.1 < 0) with
    | true => nx i k ci r.2
    | false => nx k j r.2 cj
noncomputable def finO (fin : Int → Int → Option R) (o : Option (Int × Int)) : Option R := match o with
  | some p => fin p.1 p.2
  | none => none
theorem out_eq {t : Tb} {fin : Int → Int → Option R} {u : List Nat} (he : ∀ i : Nat, i < u.length → e i = false) (he2 : e u.length = true) (hg : ∀ (i : Nat) (h : i < u.length) (f : Int → Option R), g i f = f (u[i] : Nat)) :
    ∀ (n : Nat) (i j ci cj : Int) (first : Bool), 0 ≤ ci → ci ≤ u.length → 0 ≤ cj → cj ≤ u.length → out e g t fin n i j ci cj first = finO fin (outL u t n i j ci cj first)
  | 0, i, j, ci, cj, first, _, _, _, _ => rfl
  | n + 1, i, j, ci, cj, first, h1, h2, h3, h4 => by
    unfold out outL
    dsimp only
    have ih := out_eq (fin := fin) (t := t) he he2 hg n
    have main : ∀ m : Nat, m ≤ u.length → ∀ f : Int → Int → Option R, inn e g f ((nthT t (i + (j - i) / 2)).1.drop ((m : Int)).toNat) (m : Int) 0 = f (cmpL (u.drop ((m : Int)).toNat) ((nthT t (i + (j - i) / 2)).1.drop ((m : Int)).toNat) m 0).1 (cmpL (u.drop ((m : Int)).toNat) ((nthT t (i + (j - i) / 2)).1.drop ((m : Int)).toNat) m 0).2 := fun m hm f => by
      have hp : (u.take m).length = m := by rw [List.length_take]; omega
      have key := inn_eq (k := f) he he2 hg ((nthT t (i + (j - i) / 2)).1.drop m) (u.take m) (u.drop m) 0 (List.take_append_drop m u).symm
      rw [hp] at key
      exact key
    obtain ⟨a, rfl⟩ := Int.eq_ofNat_of_zero_le h1
    obtain ⟨b, rfl⟩ := Int.eq_ofNat_of_zero_le h3
    have hbd : ∀ m : Nat, m ≤ u.length → 0 ≤ (cmpL (u.drop ((m : Int)).toNat) ((nthT t (i + (j - i) / 2)).1.drop ((m : Int)).toNat) m 0).2 ∧ (cmpL (u.drop ((m : Int)).toNat) ((nthT t (i + (j - i) / 2)).1.drop ((m : Int)).toNat) m 0).2 ≤ u.length := fun m hm => by
      have hb := cmpL_bound (u.drop ((m : Int)).toNat) ((nthT t (i + (j - i) / 2)).1.drop ((m : Int)).toNat) m 0
      rw [List.length_drop] at hb
      omega
    cases hdc : decide ((b : Int) < (a : Int))
    all_goals (dsimp only)
    · rw [main a (by omega)]
      have hb := hbd a (by omega)
      generalize cmpL (u.drop ((a : Int)).toNat) ((nthT t (i + (j - i) / 2)).1.drop ((a : Int)).toNat) a 0 = r at hb ⊢
      cases decide (r.1 < 0) with
      | true =>
        dsimp only
        cases decide (i + (j - i) / 2 - i ≤ 1) with
        | false => exact ih _ _ _ _ _ h1 h2 (by omega) (by omega)
        | true =>
          cases decide (0 < i) with
          | true => rfl
          | false =>
            cases decide (i + (j - i) / 2 = i) with
            | true => rfl
            | false => cases first with
              | true => rfl
              | false => exact ih _ _ _ _ _ h1 h2 (by omega) (by omega)
      | false =>
        dsimp only
        cases decide (j - (i + (j - i) / 2) ≤ 1) with
        | false => exact ih _ _ _ _ _ (by omega) (by omega) h3 h4
        | true =>
          cases decide (0 < i + (j - i) / 2) with
          | true => rfl
          | false =>
            cases decide (j = i + (j - i) / 2) with
            | true => rfl
            | false => cases first with
              | true => rfl
              | false => exact ih _ _ _ _ _ (by omega) (by omega) h3 h4
    · rw [main b (by omega)]
      have hb := hbd b (by omega)
      generalize cmpL (u.drop ((b : Int)).toNat) ((nthT t (i + (j - i) / 2)).1.drop ((b : Int)).toNat) b 0 = r at hb ⊢
      cases decide (r.1 < 0) with
      | true =>
        dsimp only
        cases decide (i + (j - i) / 2 - i ≤ 1) with
        | false => exact ih _ _ _ _ _ h1 h2 (by omega) (by omega)
        | true =>
          cases decide (0 < i) with
          | true => rfl
          | false =>
            cases decide (i + (j - i) / 2 = i) with
            | true => rfl
            | false => cases first with
              | true => rfl
              | false => exact ih _ _ _ _ _ h1 h2 (by omega) (by omega)
      | false =>
        dsimp only
        cases decide (j - (i + (j - i) / 2) ≤ 1) with
        | false => exact ih _ _ _ _ _ (by omega) (by omega) h3 h4
        | true =>
          cases decide (0 < i + (j - i) / 2) with
          | true => rfl
          | false =>
            cases decide (j = i + (j - i) / 2) with
            | true => rfl
            | false => cases first with
              | true => rfl
              | false => exact ih _ _ _ _ _ (by omega) (by omega) h3 h4
end
end Mine
end
section
set_option autoImplicit false
set_option maxRecDepth 100000
set_option linter.all false
namespace Mine
open PySem PySem.W PySem.Calls PyProof.Rows
/-! the search's answer on a table of words, by a finite check -/
noncomputable def faL {R : Type} (hit : Int → Int → Option R) (miss : Option R) (u : List Nat) (t : Tb) : Option R := finO (sec t hit miss 12) (outL u t 12 0 (t.length : Int) 0 0 false)
/-- two signs stand on the same side of q -/
noncomputable def Ag (x y q : Nat) : Prop := x = y ∨ (x < q ∧ y < q) ∨ (q < x ∧ q < y)
theorem Ag.nil {x y q : Nat} (h : Ag x y q) : decide ((x : Int) - q = 0) = decide ((y : Int) - q = 0) := by
  rcases h with rfl | ⟨h1, h2⟩ | ⟨h1, h2⟩
  · rfl
  · rw [decide_eq_false (by omega), decide_eq_false (by omega)]
  · rw [decide_eq_false (by omega), decide_eq_false (by omega)]
theorem Ag.neg {x y q : Nat} (h : Ag x y q) : decide ((x : Int) - q < 0) = decide ((y : Int) - q < 0) := by
  rcases h with rfl | ⟨h1, h2⟩ | ⟨h1, h2⟩
  · rfl
  · rw [decide_eq_true (by omega), decide_eq_true (by omega)]
  · rw [decide_eq_false (by omega), decide_eq_false (by omega)]
theorem Ag.beq {x y q : Nat} (h : Ag x y q) : (q == x) = (q == y) := by
  rcases h with rfl | ⟨h1, h2⟩ | ⟨h1, h2⟩
  · rfl
  · rw [beq_false_of_ne (Nat.ne_of_gt h1), beq_false_of_ne (Nat.ne_of_gt h2)]
  · rw [beq_false_of_ne (Nat.ne_of_lt h1), beq_false_of_ne (Nat.ne_of_lt h2)]
noncomputable def Agr : List (List Nat) → List Nat → List Nat → Prop
  | [], _, _ => True
  | _ :: _, [], [] => True
  | c :: cs, x :: u, y :: v => (∀ q ∈ c, Ag x y q) ∧ Agr cs u v
  | _, _, _ => False
noncomputable def wiB : List (List Nat) → List Int → Bool
  | _, [] => true
  | [], _ :: _ => false
  | c :: cs, q :: ks => c.any (fun n => (n : Int) == q) && wiB cs ks
theorem cmpL_congr : ∀ (cols : List (List Nat)) (u v : List Nat) (ks : List Int) (cm df df' : Int), Agr cols u v → wiB cols ks = true → decide (df < 0) = decide (df' < 0) →
    decide ((cmpL u ks cm df).1 < 0) = decide ((cmpL v ks cm df').1 < 0) ∧ (cmpL u ks cm df).2 = (cmpL v ks cm df').2
  | cols, u, v, [], cm, df, df', _, _, hd => by cases u <;> cases v <;> exact ⟨hd, rfl⟩
  | [], u, v, q :: ks, cm, df, df', _, hw, _ => by cases hw
  | c :: cs, [], [], q :: ks, cm, df, df', _, _, _ => ⟨rfl, rfl⟩
  | c :: cs, x :: u, y :: v, q :: ks, cm, df, df', ha, hw, _ => by
    obtain ⟨h1, h2⟩ := ha
    obtain ⟨w1, w2⟩ := Bool.and_eq_true_iff.mp hw
    obtain ⟨n, hn, hq⟩ := List.any_eq_true.mp w1
    obtain rfl := eq_of_beq hq
    have a1 := (h1 n hn).nil
    have a2 := (h1 n hn).neg
    have ih := cmpL_congr cs u v ks (cm + 1) ((x : Int) - n) ((y : Int) - n) h2 w2 a2
    unfold cmpL
    rw [a1]
    cases decide ((y : Int) - (n : Int) = 0) with
    | true => exact ih
    | false => exact ⟨a2, rfl⟩
  | c :: cs, [], y :: v, q :: ks, _, _, _, ha, _, _ => ha.elim
  | c :: cs, x :: u, [], q :: ks, _, _, _, ha, _, _ => ha.elim
theorem Agr.drop : ∀ (n : Nat) {cols : List (List Nat)} {u v : List Nat}, Agr cols u v → Agr (cols.drop n) (u.drop n) (v.drop n)
  | 0, _, _, _, h => h
  | n + 1, [], _, _, _ => by rw [List.drop_nil]; exact trivial
  | n + 1, c :: cs, [], [], _ => by
    rw [List.drop_nil]
    cases (c :: cs).drop (n + 1) <;> exact trivial
  | n + 1, c :: cs, x :: u, y :: v, h => Agr.drop n h.2
  | n + 1, c :: cs, [], y :: v, h => h.elim
  | n + 1, c :: cs, x :: u, [], h => h.elim
theorem wi_drop : ∀ (n : Nat) {cols : List (List Nat)} {ks : List Int}, wiB cols ks = true → wiB (cols.drop n) (ks.drop n) = true
  | 0, _, _, h => h
  | n + 1, cols, [], _ => by
    rw [List.drop_nil]
    cases cols.drop (n + 1) <;> rfl
  | n + 1, [], q :: ks, h => by cases h
  | n + 1, c :: cs, q :: ks, h => wi_drop n (Bool.and_eq_true_iff.mp h).2
theorem wi_nth {cols : List (List Nat)} {t : Tb} (h : t.all (fun x => wiB cols x.1) = true) (i : Int) : wiB cols (nthT t i).1 = true := by
  unfold nthT
  rw [List.getD_eq_getElem?_getD]
  cases q : t[i.toNat]? with
  | none => cases cols <;> rfl
  | some x => exact List.all_eq_true.mp h x (List.mem_of_getElem? q)
theorem outL_congr {cols : List (List Nat)} {t : Tb} {u v : List Nat} (hw : t.all (fun x => wiB cols x.1) = true) (ha : Agr cols u v) : ∀ (n : Nat) (i j ci cj : Int) (first : Bool), outL u t n i j ci cj first = outL v t n i j ci cj first
  | 0, _, _, _, _, _ => rfl
  | n + 1, i, j, ci, cj, first => by
    have ih := outL_congr hw ha n
    unfold outL
    dsimp only
    have key : ∀ m : Int, decide ((cmpL (u.drop m.toNat) ((nthT t (i + (j - i) / 2)).1.drop m.toNat) m 0).1 < 0) = decide ((cmpL (v.drop m.toNat) ((nthT t (i + (j - i) / 2)).1.drop m.toNat) m 0).1 < 0) ∧ (cmpL (u.drop m.toNat) ((nthT t (i + (j - i) / 2)).1.drop m.toNat) m 0).2 = (cmpL (v.drop m.toNat) ((nthT t (i + (j - i) / 2)).1.drop m.toNat) m 0).2 := fun m =>
      cmpL_congr (cols.drop m.toNat) (u.drop m.toNat) (v.drop m.toNat) ((nthT t (i + (j - i) / 2)).1.drop m.toNat) m 0 0 (ha.drop m.toNat) (wi_drop m.toNat (wi_nth hw _)) rfl
    cases decide (cj < ci) with
    | true =>
      obtain ⟨h1, h2⟩ := key cj
      dsimp only
      rw [h1, h2]
      simp only [ih]
    | false =>
      obtain ⟨h1, h2⟩ := key ci
      dsimp only
      rw [h1, h2]
      simp only [ih]
noncomputable def secD (t : Tb) : Nat → Int → Int → Option (Option (Int × Int))
  | 0, _, _ => none
  | n + 1, i, ci => match decide (((nthT t i).1.length : Int) ≤ ci) with
    | true => some (some ((nthT t i).1.length, (nthT t i).2.2))
    | false => match decide ((nthT t i).2.1 < 0) with
      | true => some none
      | false => secD t n (nthT t i).2.1 ci
noncomputable def sayD {R : Type} (hit : Int → Int → Option R) (miss : Option R) : Option (Option (Int × Int)) → Option R
  | some (some p) => hit p.1 p.2
  | some none => miss
  | none => none
theorem sec_D {R : Type} (t : Tb) (hit : Int → Int → Option R) (miss : Option R) : ∀ (n : Nat) (i ci : Int), sec t hit miss n i ci = sayD hit miss (secD t n i ci)
  | 0, _, _ => rfl
  | n + 1, i, ci => by
    unfold sec secD
    cases decide (((nthT t i).1.length : Int) ≤ ci) with
    | true => rfl
    | false => cases decide ((nthT t i).2.1 < 0) with
      | true => rfl
      | false => exact sec_D t hit miss n _ ci
noncomputable def faD (t : Tb) (u : List Nat) : Option (Option (Int × Int)) := match outL u t 12 0 (t.length : Int) 0 0 false with
  | some p => secD t 12 p.1 p.2
  | none => none
theorem faL_D {R : Type} (t : Tb) (hit : Int → Int → Option R) (miss : Option R) (u : List Nat) : faL hit miss u t = sayD hit miss (faD t u) := by
  unfold faL faD
  cases outL u t 12 0 (t.length : Int) 0 0 false with
  | none => rfl
  | some p => exact sec_D t hit miss 12 p.1 p.2
/-- the first word of a list that the text begins with -/
noncomputable def ansI {R : Type} (hit : Int → Int → Option R) (miss : Option R) (u : List Nat) : List (List Nat × Int) → Option R
  | [] => miss
  | (k, r) :: t => if k.isPrefixOf u then hit k.length r else ansI hit miss u t
noncomputable def ansD (u : List Nat) : List (List Nat × Int) → Option (Int × Int)
  | [] => none
  | (k, r) :: t => if k.isPrefixOf u then some ((k.length : Int), r) else ansD u t
theorem ans_D {R : Type} (hit : Int → Int → Option R) (miss : Option R) (u : List Nat) : ∀ t : List (List Nat × Int), ansI hit miss u t = sayD hit miss (some (ansD u t))
  | [] => rfl
  | (k, r) :: t => by
    unfold ansI ansD
    cases k.isPrefixOf u with
    | true => rfl
    | false => exact ans_D hit miss u t
noncomputable def wiN (cols : List (List Nat)) (k : List Nat) : Bool := wiB cols (k.map Int.ofNat)
theorem pre_congr : ∀ (cols : List (List Nat)) (u v k : List Nat), Agr cols u v → wiN cols k = true → k.isPrefixOf u = k.isPrefixOf v
  | cols, u, v, [], _, _ => by cases u <;> cases v <;> rfl
  | [], u, v, q :: k, _, hw => by cases hw
  | c :: cs, [], [], q :: k, _, _ => rfl
  | c :: cs, x :: u, y :: v, q :: k, ha, hw => by
    obtain ⟨h1, h2⟩ := ha
    obtain ⟨w1, w2⟩ := Bool.and_eq_true_iff.mp hw
    obtain ⟨n, hn, hq⟩ := List.any_eq_true.mp w1
    obtain rfl : n = q := Int.ofNat.inj (eq_of_beq hq)
    have ih := pre_congr cs u v k h2 w2
    show ((n == x) && k.isPrefixOf u) = ((n == y) && k.isPrefixOf v)
    rw [ih, (h1 n hn).beq]
  | c :: cs, [], y :: v, q :: k, ha, _ => ha.elim
  | c :: cs, x :: u, [], q :: k, ha, _ => ha.elim
theorem ans_congr {cols : List (List Nat)} {u v : List Nat} (ha : Agr cols u v) : ∀ (t : List (List Nat × Int)), t.all (fun x => wiN cols x.1) = true → ansD u t = ansD v t
  | [], _ => rfl
  | (k, r) :: t, h => by
    obtain ⟨h1, h2⟩ := Bool.and_eq_true_iff.mp h
    unfold ansD
    rw [pre_congr cols u v k ha h1, ans_congr ha t h2]
/-- signs enough to tell all apart -/
noncomputable def alph (c : List Nat) : List Nat := 0 :: (c ++ c.map (· + 1))
theorem alph_ok : ∀ (c : List Nat) (x : Nat), ∃ y, y ∈ alph c ∧ y ≤ x ∧ ∀ q ∈ c, Ag x y q
  | [], x => ⟨0, .head _, Nat.zero_le _, fun q h => by cases h⟩
  | q0 :: c, x => by
    obtain ⟨y, h1, h2, h3⟩ := alph_ok c x
    have up : y ∈ alph (q0 :: c) := by
      rcases List.mem_cons.mp h1 with h | h
      · exact h ▸ .head _
      · rcases List.mem_append.mp h with h | h
        · exact .tail _ (List.mem_append_left _ (.tail _ h))
        · exact .tail _ (List.mem_append_right _ (.tail _ h))
    rcases Nat.lt_trichotomy x q0 with e | e | e
    · exact ⟨y, up, h2, fun q hq => (List.mem_cons.mp hq).elim (fun z => z ▸ .inr (.inl ⟨e, Nat.lt_of_le_of_lt h2 e⟩)) (h3 q)⟩
    · exact ⟨x, e ▸ .tail _ (.head _), Nat.le_refl _, fun q _ => .inl rfl⟩
    · by_cases e2 : q0 < y
      · exact ⟨y, up, h2, fun q hq => (List.mem_cons.mp hq).elim (fun z => z ▸ .inr (.inr ⟨e, e2⟩)) (h3 q)⟩
      · refine ⟨q0 + 1, .tail _ (List.mem_append_right _ (.head _)), e, fun q hq => ?_⟩
        rcases List.mem_cons.mp hq with rfl | hq
        · exact .inr (.inr ⟨e, Nat.lt_succ_self _⟩)
        · rcases h3 q hq with z | ⟨z1, z2⟩ | ⟨z1, z2⟩
          · exact absurd (z ▸ e) e2
          · exact .inr (.inl ⟨z1, Nat.lt_of_le_of_lt e z1⟩)
          · exact .inr (.inr ⟨z1, Nat.lt_of_lt_of_le z2 (Nat.le_succ_of_le (Nat.le_of_not_lt e2))⟩)
noncomputable def allV : List (List Nat) → List (List Nat)
  | [] => [[]]
  | c :: cs => [] :: (alph c).flatMap fun y => (allV cs).map (y :: ·)
theorem allV_ok : ∀ (cols : List (List Nat)) (u : List Nat), ∃ v, v ∈ allV cols ∧ Agr cols u v
  | [], u => ⟨[], .head _, trivial⟩
  | c :: cs, [] => ⟨[], .head _, trivial⟩
  | c :: cs, x :: u => by
    obtain ⟨y, h1, _, h2⟩ := alph_ok c x
    obtain ⟨v, h3, h4⟩ := allV_ok cs u
    exact ⟨y :: v, .tail _ (List.mem_flatMap.mpr ⟨y, h1, List.mem_map.mpr ⟨v, h3, rfl⟩⟩), h2, h4⟩
noncomputable def eqD : Option (Option (Int × Int)) → Option (Int × Int) → Bool
  | some (some p), some q => decide (p.1 = q.1) && decide (p.2 = q.2)
  | some none, none => true
  | _, _ => false
theorem eqD_ok : ∀ {a : Option (Option (Int × Int))} {b : Option (Int × Int)}, eqD a b = true → a = some b
  | some (some p), some q, h => by
    obtain ⟨h1, h2⟩ := Bool.and_eq_true_iff.mp h
    rw [show p = q from Prod.ext (of_decide_eq_true h1) (of_decide_eq_true h2)]
  | some none, none, _ => rfl
theorem fa_ans {R : Type} (cols : List (List Nat)) (t : Tb) (s : List (List Nat × Int)) (h1 : t.all (fun x => wiB cols x.1) = true) (h2 : s.all (fun x => wiN cols x.1) = true) (h3 : (allV cols).all (fun v => eqD (faD t v) (ansD v s)) = true)
    (hit : Int → Int → Option R) (miss : Option R) (u : List Nat) : faL hit miss u t = ansI hit miss u s := by
  obtain ⟨v, hv, ha⟩ := allV_ok cols u
  have e1 : faD t u = faD t v := by
    unfold faD
    rw [outL_congr h1 ha]
  rw [faL_D, ans_D, ans_congr ha s h2, e1, eqD_ok (List.all_eq_true.mp h3 v hv)]
section
variable {R : Type} (hit : Int → Int → Option R) (miss : Option R) (u0 : List Nat)
noncomputable def kF4s : List (List Nat × Int) := [([98, 101], 2), ([112, 101], 1)]
noncomputable def kB0s : List (List Nat × Int) := [([104, 97, 107], 1), ([104, 97, 108], 1), ([110, 117, 112], 1)]
noncomputable def kB1s : List (List Nat × Int) := [([97, 121, 110], 1), ([117, 107], 1), ([117, 109], 1)]
noncomputable def kB2s : List (List Nat × Int) := [([105], 2), ([110, 97], 1)]
noncomputable def kF3s : List (List Nat × Int) := [([100, 105], 1), ([107, 101], 3), ([116, 101, 114], 1), ([109, 101, 109], 5), ([109, 101, 110, 103], 1), ([109, 101, 110], 2), ([109, 101], 1), ([112, 101, 109], 6), ([112, 101, 110, 103], 3), ([112, 101, 110], 4)]
noncomputable def anF4 : Option R := ansI hit miss u0 kF4s
noncomputable def anB0 : Option R := ansI hit miss u0 kB0s
noncomputable def anB1 : Option R := ansI hit miss u0 kB1s
noncomputable def anB2 : Option R := ansI hit miss u0 kB2s
noncomputable def anF3 : Option R := ansI hit miss u0 kF3s
theorem anF4_eq : faL hit miss u0 [([98, 101], -1, 2), ([112, 101], -1, 1)] = anF4 hit miss u0 := fa_ans [[98, 112], [101]] _ kF4s (by decide +kernel) (by decide +kernel) (by decide +kernel) hit miss u0
theorem anB0_eq : faL hit miss u0 [([104, 97, 107], -1, 1), ([104, 97, 108], -1, 1), ([110, 117, 112], -1, 1)] = anB0 hit miss u0 := fa_ans [[104, 110], [97, 117], [107, 108, 112]] _ kB0s (by decide +kernel) (by decide +kernel) (by decide +kernel) hit miss u0
theorem anB1_eq : faL hit miss u0 [([97, 121, 110], -1, 1), ([117, 107], -1, 1), ([117, 109], -1, 1)] = anB1 hit miss u0 := fa_ans [[97, 117], [121, 107, 109], [110]] _ kB1s (by decide +kernel) (by decide +kernel) (by decide +kernel) hit miss u0
theorem anB2_eq : faL hit miss u0 [([105], -1, 2), ([110, 97], -1, 1)] = anB2 hit miss u0 := fa_ans [[105, 110], [97]] _ kB2s (by decide +kernel) (by decide +kernel) (by decide +kernel) hit miss u0
theorem anF3_eq : faL hit miss u0 [([100, 105], -1, 1), ([107, 101], -1, 3), ([109, 101], -1, 1), ([109, 101, 109], 2, 5), ([109, 101, 110], 2, 2), ([109, 101, 110, 103], 4, 1), ([112, 101, 109], -1, 6), ([112, 101, 110], -1, 4), ([112, 101, 110, 103], 7, 3), ([116, 101, 114], -1, 1)] = anF3 hit miss u0 :=
  fa_ans [[100, 107, 109, 112, 116], [101, 105], [109, 110, 114], [103]] _ kF3s (by decide +kernel) (by decide +kernel) (by decide +kernel) hit miss u0
end
end Mine
end
section
set_option autoImplicit false
set_option maxRecDepth 100000
set_option linter.all false
namespace Mine
open PySem PySem.W PySem.Calls PyProof.Rows
theorem chr_at {R : Type} (l : List Nat) (i : Nat) (h : i < l.length) (f : Int → Option R) : chr (St l) (i : Int) f = f (l[i] : Nat) := by
  unfold chr
  rw [show decide (0 ≤ (i : Int)) = true from decide_eq_true (by omega), show decide ((i : Int) < ((St l).length : Int)) = true from decide_eq_true (by rw [St_len]; omega), item_St l i h]
  rfl
theorem faF_eq {R : Type} (hit : Int → Int → Option R) (miss : Option R) (pre u : List Nat) (t : Tb) : faF (St (pre ++ u)) pre.length (pre ++ u).length t hit miss = faL hit miss u t := by
  unfold faF faL
  refine out_eq (u := u) (fun i hi => decide_eq_false (by rw [List.length_append]; omega)) (decide_eq_true (by rw [List.length_append]; omega)) (fun i hi f => ?_) 12 0 t.length 0 0 false (by omega) (by omega) (by omega) (by omega)
  have e : ((pre.length : Int) + (i : Int)) = ((pre.length + i : Nat) : Int) := by omega
  show chr _ ((pre.length : Int) + (i : Int)) f = _
  rw [e, chr_at _ _ (by rw [List.length_append]; omega)]
  congr 2
  simp
theorem faB_eq {R : Type} (hit : Int → Int → Option R) (miss : Option R) (pre v post : List Nat) (t : Tb) : faB (St (pre ++ v ++ post)) (pre ++ v).length pre.length t hit miss = faL hit miss v.reverse t := by
  unfold faB faL
  refine out_eq (u := v.reverse) (fun i hi => decide_eq_false (by rw [List.length_reverse] at hi; rw [List.length_append]; omega)) (decide_eq_true (by rw [List.length_reverse, List.length_append]; omega)) (fun i hi f => ?_) 12 0 t.length 0 0 false (by omega) (by omega) (by omega) (by omega)
  have hi' : i < v.length := by simpa using hi
  have e : (((pre ++ v).length : Int) - 1 - (i : Int)) = ((pre.length + (v.length - 1 - i) : Nat) : Int) := by rw [List.length_append]; omega
  show chr _ (((pre ++ v).length : Int) - 1 - (i : Int)) f = _
  rw [e, chr_at _ _ (by rw [List.length_append, List.length_append]; omega)]
  congr 2
  rw [List.getElem_reverse, List.getElem_append_left (by rw [List.length_append]; omega), List.getElem_append_right (by omega)]
  congr 1
  omega
end Mine
end
section
set_option autoImplicit false
set_option maxRecDepth 1000000
set_option linter.all false
namespace Mine
open PySem PySem.W PySem.Calls PyProof.Rows

noncomputable abbrev tl (cur : Str) (c l lb b k m p : Int) : Tel := ⟨cur, c, l, lb, b, k, m, p⟩
noncomputable def whlOf : List Stmt → Expr × List Stmt
  | .While t b _ _ :: _ => (t, b)
  | _ => (.Name "" default, [])
/-- how many signs stand before the first vowel -/
noncomputable def nxt : List Nat → Option Nat
  | [] => none
  | c :: r => match isV c with
    | true => some 0
    | false => match nxt r with
      | some j => some (j + 1)
      | none => none
noncomputable def w98 : Expr × List Stmt := whlOf (fnB (mSt 2 9))
noncomputable def l98 : List (Str × V) := [("self", .self), ("s", .cst 232)]
section
variable {R : Type} (n d : Nat) (cur : Str) (c l lb b kt m p : Int) (k : Ks R)
theorem go_one : run (wdS sums) (n + 15) (.whl w98.1 w98.2 ⟨fnS (mSt 2 9), d, l98, tl cur c l lb b kt m p⟩ k) =
    (match decide (c < l) with
    | true => (match decide (0 ≤ c) with
      | true => (match decide (c < (cur.length : Int)) with
        | true => (match vl.any (· == Txt.item cur c) with
          | true => k.ret (.bool true) ⟨fnS (mSt 2 9), d, l98, tl cur c l lb b kt m p⟩
          | false => run (wdS sums) (n + 14) (.whl w98.1 w98.2 ⟨fnS (mSt 2 9), d, l98, tl cur (c + 1) l lb b kt m p⟩ k))
        | false => none)
      | false => none)
    | false => k.next ⟨fnS (mSt 2 9), d, l98, tl cur c l lb b kt m p⟩) := by kernel_rfl
end
theorem go_all {R : Type} (d : Nat) (lb b kt m p : Int) (k : Ks R) : ∀ (r pre : List Nat) (n : Nat), r.length ≤ n →
    run (wdS sums) (n + 15) (.whl w98.1 w98.2 ⟨fnS (mSt 2 9), d, l98, tl (St (pre ++ r)) pre.length (pre ++ r).length lb b kt m p⟩ k) =
    (match nxt r with
    | some j => k.ret (.bool true) ⟨fnS (mSt 2 9), d, l98, tl (St (pre ++ r)) (pre.length + j : Nat) (pre ++ r).length lb b kt m p⟩
    | none => k.next ⟨fnS (mSt 2 9), d, l98, tl (St (pre ++ r)) (pre ++ r).length (pre ++ r).length lb b kt m p⟩)
  | [], pre, n, h => by
    rw [go_one]
    have e : decide ((pre.length : Int) < ((pre ++ ([] : List Nat)).length : Int)) = false := decide_eq_false (by simp)
    rw [e]
    show k.next _ = k.next _
    simp
  | x :: r, pre, 0, h => by simp at h
  | x :: r, pre, n + 1, h => by
    rw [go_one]
    have e1 : decide ((pre.length : Int) < ((pre ++ x :: r).length : Int)) = true := decide_eq_true (by simp; omega)
    have e2 : decide (0 ≤ (pre.length : Int)) = true := decide_eq_true (by omega)
    have e3 : decide ((pre.length : Int) < ((St (pre ++ x :: r)).length : Int)) = true := by rw [St_len]; exact e1
    have e4 : Txt.item (St (pre ++ x :: r)) (pre.length : Int) = St [x] := by
      rw [item_St _ _ (by simp)]
      simp
    have e5 : vl.any (· == St [x]) = isV x := rfl
    rw [e1, e2, e3, e4, e5]
    cases q : isV x with
    | true =>
      show k.ret _ _ = _
      rw [show nxt (x :: r) = some 0 by unfold nxt; rw [q]]
      rfl
    | false =>
      show run (wdS sums) (n + 15) _ = _
      have ih := go_all d lb b kt m p k r (pre ++ [x]) n (by simpa using h)
      have ea : pre ++ [x] ++ r = pre ++ x :: r := by simp
      have el : ((pre ++ [x]).length : Int) = (pre.length : Int) + 1 := by simp
      rw [ea, el] at ih
      rw [ih]
      cases q2 : nxt r with
      | none => rw [show nxt (x :: r) = none by unfold nxt; rw [q, q2]]
      | some j =>
        rw [show nxt (x :: r) = some (j + 1) by unfold nxt; rw [q, q2]]
        dsimp only
        congr 4
        simp
        omega
noncomputable def g98 (args : List V) (t : Tel) : Option (V × Tel) := match args with
  | [.self, .cst a] => if a = 232 ∧ 0 ≤ t.cursor ∧ t.cursor ≤ t.limit ∧ t.limit = t.cur.length ∧ t.cur.length ≤ 1000 then
      (match nxt (t.cur.cps.toList.drop t.cursor.toNat) with
      | some j => some (.bool true, { t with cursor := t.cursor + j })
      | none => some (.bool false, { t with cursor := t.limit }))
    else none
  | _ => none
theorem start98 {R : Type} (n d : Nat) (sc : Scope) (loc : List (Str × V)) (t : Tel) (k : V → Sg → Option R) : run (wdS sums) (n + 5) (.call 98 [.self, .cst 232] ⟨sc, d + 1, loc, t⟩ k) =
    run (wdS sums) (n + 3) (.whl w98.1 w98.2 ⟨fnS (mSt 2 9), d, l98, t⟩
      { noneAll R with next := fun σ' => k (.bool false) ⟨sc, d + 1, loc, σ'.tel⟩, ret := fun v σ' => k v ⟨sc, d + 1, loc, σ'.tel⟩ }) := by kernel_rfl
theorem tel_eta (t : Tel) : t = tl t.cur t.cursor t.limit t.lb t.bra t.ket t.meas t.pre := rfl
theorem does98 : Does sums 1020 98 g98 1 := by
  intro args t r sc d loc hd h
  obtain ⟨d', rfl⟩ : ∃ d', d = d' + 1 := ⟨d - 1, by omega⟩
  unfold g98 at h
  split at h
  · split at h
    · rename_i a hc
      obtain ⟨rfl, h0, h1, h2, h3⟩ := hc
      refine (start98 1015 d' sc loc t (fun v σ => some (v, σ.tel))).trans ?_
      have hl : t.cur.length = t.cur.cps.toList.length := rfl
      have hp : ((t.cur.cps.toList.take t.cursor.toNat).length : Int) = t.cursor := by rw [List.length_take]; omega
      have ha : t.cur.cps.toList.take t.cursor.toNat ++ t.cur.cps.toList.drop t.cursor.toNat = t.cur.cps.toList := List.take_append_drop _ _
      have hs : St t.cur.cps.toList = t.cur := (St_of _).symm
      have g := go_all d' t.lb t.bra t.ket t.meas t.pre { noneAll (V × Tel) with next := fun σ' => some (V.bool false, σ'.tel), ret := fun v σ' => some (v, σ'.tel) } (t.cur.cps.toList.drop t.cursor.toNat) (t.cur.cps.toList.take t.cursor.toNat) 1003 (by rw [List.length_drop]; omega)
      rw [ha, hp, hs, ← hl, ← h2] at g
      have g' : run (wdS sums) 1018 (.whl w98.1 w98.2 ⟨fnS (mSt 2 9), d', l98, t⟩ { noneAll (V × Tel) with next := fun σ' => some (V.bool false, σ'.tel), ret := fun v σ' => some (v, σ'.tel) }) = _ := g
      refine g'.trans ?_
      cases q : nxt (t.cur.cps.toList.drop t.cursor.toNat) with
      | none =>
        rw [q] at h
        exact h
      | some j =>
        rw [q] at h
        refine Eq.trans ?_ h
        show some (V.bool true, tl t.cur _ t.limit t.lb t.bra t.ket t.meas t.pre) = some (V.bool true, tl t.cur _ t.limit t.lb t.bra t.ket t.meas t.pre)
        congr 3
        omega
    · cases h
  · cases h
end Mine
end
section
set_option autoImplicit false
set_option maxRecDepth 100000
set_option linter.all false
namespace Mine
open PySem PySem.W PySem.Calls PyProof.Rows
noncomputable def isTab : List V → List (Str × Int × Int) → Bool
  | [], [] => true
  | .am s i r :: vs, x :: l => s == x.1 && decide (i = x.2.1) && decide (r = x.2.2) && isTab vs l
  | _, _ => false
theorem isTab_ok : ∀ {vs : List V} {l : List (Str × Int × Int)}, isTab vs l = true → V.lst vs = tab l
  | [], [], _ => rfl
  | v :: vs, x :: l, h => by
    cases v with
    | am s i r =>
      unfold isTab at h
      simp only [Bool.and_eq_true] at h
      obtain ⟨⟨⟨h1, h2⟩, h3⟩, h4⟩ := h
      have ih := isTab_ok h4
      unfold tab at ih ⊢
      rw [List.map_cons, ← eq_of_beq h1, ← of_decide_eq_true h2, ← of_decide_eq_true h3]
      injection ih with ih
      rw [ih]
    | _ => cases h
  | [], _ :: _, h => by cases h
  | v :: _, [], h => by cases v <;> cases h
/-- the text between the bound and the cursor, from its end -/
noncomputable def backL (t : Tel) : List Nat := ((t.cur.cps.toList.drop t.lb.toNat).take (t.cursor.toNat - t.lb.toNat)).reverse
noncomputable def hitB (t : Tel) : Int → Int → Option (V × Tel) := fun len res => some (.int res, { t with cursor := t.cursor - len })
noncomputable def g140 (args : List V) (t : Tel) : Option (V × Tel) := match args with
  | [.self, .lst vs] => if 0 ≤ t.lb ∧ t.lb ≤ t.cursor ∧ t.cursor ≤ t.cur.length then
      (if isTab vs a0 = true then anB0 (hitB t) (some (.int 0, t)) (backL t)
      else if isTab vs a1 = true then anB1 (hitB t) (some (.int 0, t)) (backL t)
      else if isTab vs a2 = true then anB2 (hitB t) (some (.int 0, t)) (backL t)
      else none) else none
  | _ => none
theorem back_eq {R : Type} (t : Tel) (h0 : 0 ≤ t.lb) (h1 : t.lb ≤ t.cursor) (h2 : t.cursor ≤ t.cur.length) (tb : Tb) (hit : Int → Int → Option R) (miss : Option R) : faB t.cur t.cursor t.lb tb hit miss = faL hit miss (backL t) tb := by
  have hl : t.cur.length = t.cur.cps.toList.length := rfl
  have e1 : t.cur.cps.toList.take t.lb.toNat ++ (t.cur.cps.toList.drop t.lb.toNat).take (t.cursor.toNat - t.lb.toNat) ++ (t.cur.cps.toList.drop t.lb.toNat).drop (t.cursor.toNat - t.lb.toNat) = t.cur.cps.toList := by
    rw [List.append_assoc, List.take_append_drop, List.take_append_drop]
  have g := faB_eq hit miss (t.cur.cps.toList.take t.lb.toNat) ((t.cur.cps.toList.drop t.lb.toNat).take (t.cursor.toNat - t.lb.toNat)) ((t.cur.cps.toList.drop t.lb.toNat).drop (t.cursor.toNat - t.lb.toNat)) tb
  rw [e1, ← St_of] at g
  have e2 : ((t.cur.cps.toList.take t.lb.toNat).length : Int) = t.lb := by rw [List.length_take]; omega
  have e3 : ((t.cur.cps.toList.take t.lb.toNat ++ (t.cur.cps.toList.drop t.lb.toNat).take (t.cursor.toNat - t.lb.toNat)).length : Int) = t.cursor := by
    rw [List.length_append, List.length_take, List.length_take, List.length_drop]; omega
  rw [e2, e3] at g
  exact g
theorem kB0 : keysB a0 = [([104, 97, 107], -1, 1), ([104, 97, 108], -1, 1), ([110, 117, 112], -1, 1)] := by kernel_rfl
theorem kB1 : keysB a1 = [([97, 121, 110], -1, 1), ([117, 107], -1, 1), ([117, 109], -1, 1)] := by kernel_rfl
theorem kB2 : keysB a2 = [([105], -1, 2), ([110, 97], -1, 1)] := by kernel_rfl
theorem does140 : Does sums 150 140 g140 1 := by
  intro args t r sc d loc hd h
  obtain ⟨d', rfl⟩ : ∃ d', d = d' + 1 := ⟨d - 1, by omega⟩
  unfold g140 at h
  split at h
  · rename_i vs
    split at h
    · rename_i hc
      obtain ⟨h0, h1, h2⟩ := hc
      split at h
      · rename_i ht
        rw [isTab_ok ht]
        have g := fb0 d' sc loc t.cur t.cursor t.limit t.lb t.bra t.ket t.meas t.pre (fun v σ => some (v, σ.tel))
        refine Eq.trans g ?_
        rw [back_eq t h0 h1 h2, kB0, anB0_eq]
        exact h
      · split at h
        · rename_i ht
          rw [isTab_ok ht]
          have g := fb1 d' sc loc t.cur t.cursor t.limit t.lb t.bra t.ket t.meas t.pre (fun v σ => some (v, σ.tel))
          refine Eq.trans g ?_
          rw [back_eq t h0 h1 h2, kB1, anB1_eq]
          exact h
        · split at h
          · rename_i ht
            rw [isTab_ok ht]
            have g := fb2 d' sc loc t.cur t.cursor t.limit t.lb t.bra t.ket t.meas t.pre (fun v σ => some (v, σ.tel))
            refine Eq.trans g ?_
            rw [back_eq t h0 h1 h2, kB2, anB2_eq]
            exact h
          · cases h
    · cases h
  · cases h
end Mine
end
section
set_option autoImplicit false
set_option maxRecDepth 100000
set_option linter.all false
namespace Mine
open PySem PySem.W PySem.Calls PyProof.Rows
/-- the text from the cursor on -/
noncomputable def foreL (t : Tel) : List Nat := t.cur.cps.toList.drop t.cursor.toNat
noncomputable def hitF (t : Tel) : Int → Int → Option (V × Tel) := fun len res => some (.int res, { t with cursor := t.cursor + len })
noncomputable def g133 (args : List V) (t : Tel) : Option (V × Tel) := match args with
  | [.self, .lst vs] => if 0 ≤ t.cursor ∧ t.cursor ≤ t.cur.length ∧ t.limit = t.cur.length then
      (if isTab vs a3 = true then anF3 (hitF t) (some (.int 0, t)) (foreL t)
      else if isTab vs a4 = true then anF4 (hitF t) (some (.int 0, t)) (foreL t)
      else none) else none
  | _ => none
theorem fore_eq {R : Type} (t : Tel) (h0 : 0 ≤ t.cursor) (h1 : t.cursor ≤ t.cur.length) (h2 : t.limit = t.cur.length) (tb : Tb) (hit : Int → Int → Option R) (miss : Option R) : faF t.cur t.cursor t.limit tb hit miss = faL hit miss (foreL t) tb := by
  have hl : t.cur.length = t.cur.cps.toList.length := rfl
  have g := faF_eq hit miss (t.cur.cps.toList.take t.cursor.toNat) (t.cur.cps.toList.drop t.cursor.toNat) tb
  rw [List.take_append_drop, ← St_of] at g
  have e2 : ((t.cur.cps.toList.take t.cursor.toNat).length : Int) = t.cursor := by rw [List.length_take]; omega
  rw [e2, ← hl, ← h2] at g
  exact g
theorem kF3 : keysF a3 = [([100, 105], -1, 1), ([107, 101], -1, 3), ([109, 101], -1, 1), ([109, 101, 109], 2, 5), ([109, 101, 110], 2, 2), ([109, 101, 110, 103], 4, 1), ([112, 101, 109], -1, 6), ([112, 101, 110], -1, 4), ([112, 101, 110, 103], 7, 3), ([116, 101, 114], -1, 1)] := by kernel_rfl
theorem kF4 : keysF a4 = [([98, 101], -1, 2), ([112, 101], -1, 1)] := by kernel_rfl
theorem does133 : Does sums 101 133 g133 1 := by
  intro args t r sc d loc hd h
  obtain ⟨d', rfl⟩ : ∃ d', d = d' + 1 := ⟨d - 1, by omega⟩
  unfold g133 at h
  split at h
  · rename_i vs
    split at h
    · rename_i hc
      obtain ⟨h0, h1, h2⟩ := hc
      split at h
      · rename_i ht
        rw [isTab_ok ht]
        refine find_ok a3 (by decide +kernel) (by decide +kernel) (by decide) d' sc loc t (fun v σ => some (v, σ.tel)) ?_
        rw [fore_eq t h0 h1 h2, kF3, anF3_eq]
        exact h
      · split at h
        · rename_i ht
          rw [isTab_ok ht]
          refine find_ok a4 (by decide +kernel) (by decide +kernel) (by decide) d' sc loc t (fun v σ => some (v, σ.tel)) ?_
          rw [fore_eq t h0 h1 h2, kF4, anF4_eq]
          exact h
        · cases h
    · cases h
  · cases h
end Mine
end
section
set_option autoImplicit false
set_option maxRecDepth 100000
set_option linter.all false
namespace Mine
open PySem PySem.W PySem.Calls PyProof.Rows
/-- several truths at once over one table -/
theorem Lev.adds {sm sm' : Nat → Option Summ} (L : Lev sm) (h : ∀ b S, sm' b = some S → sm b = some S ∨ ∃ N g dep, S = Dir g dep ∧ Does sm N b g dep ∧ b ∈ fnAddrs) : Lev sm' := by
  refine ⟨fun X HX b S hS R args t k r hr => ?_, fun b hb => ?_⟩
  · have hs : X.wd.sums = sm' := by rw [HX.wd]; rfl
    rw [hs] at hS
    rcases h b S hS with q | ⟨N, g, dep, rfl, hd, hm⟩
    · have HX' : XOk (X.wth (wdS sm)) sm := ⟨HX.k, rfl, HX.ca, HX.hc, L.dom⟩
      obtain ⟨v, t', h1, h2⟩ := L.ok _ HX' b S q R args t k r hr
      exact ⟨v, t', h1, fun d hd => (h2 d hd).wd2 (by rw [HX.wd]; rfl)⟩
    · have hr : (match g args t with | some r => k r.1 r.2 | none => none) = some r := hr
      cases q : g args t with
      | none => rw [q] at hr; cases hr
      | some p =>
        rw [q] at hr
        exact ⟨p.1, p.2, hr, fun d hdd => L.call hd HX q d hdd⟩
  · obtain ⟨S, hS⟩ := Option.isSome_iff_exists.mp hb
    rcases h b S hS with q | ⟨N, g, dep, _, _, hm⟩
    · exact L.dom b (by rw [q]; rfl)
    · exact hm
end Mine
end
section
set_option autoImplicit false
set_option maxRecDepth 1000000
set_option linter.all false
namespace Mine
open PySem PySem.W PySem.Calls PyProof.Rows
noncomputable abbrev T (l : List Nat) (c lb b k m p : Int) : Tel := ⟨St l, c, l.length, lb, b, k, m, p⟩
noncomputable def G1 : Nat → Gf := fun b => if b = 98 then g98 else if b = 140 then g140 else if b = 133 then g133 else fun _ _ => none
noncomputable def G2 : Nat → Gf := fun b => if b = 154 then gR (smG dom1 G1) 60 154 3 else if b = 63 then gR (smG dom1 G1) 60 63 1 else if b = 91 then gR (smG dom1 G1) 60 91 1 else if b = 119 then gR (smG dom1 G1) 60 119 1 else G1 b
theorem lev_1 : Lev (smG dom1 G1) := by
  refine lv0.adds fun b S hS => ?_
  have e : smG dom1 G1 b = if b = 98 then some (Dir g98 1) else if b = 140 then some (Dir g140 1) else if b = 133 then some (Dir g133 1) else sums b := by
    unfold smG dom1
    by_cases h1 : b = 98
    · subst h1; rfl
    · by_cases h2 : b = 140
      · subst h2; rfl
      · by_cases h3 : b = 133
        · subst h3; rfl
        · rw [if_neg h1, if_neg h2, if_neg h3]
          have l1 : List.lookup b [(98, 1), (140, 1), (133, 1)] = none := by
            rw [List.lookup_cons, beq_false_of_ne h1, List.lookup_cons, beq_false_of_ne h2, List.lookup_cons, beq_false_of_ne h3]
            rfl
          rw [l1]
          rfl
  rw [e] at hS
  split at hS
  · rename_i hb; subst hb; exact .inr ⟨1020, g98, 1, (Option.some.inj hS).symm, does98, by decide +kernel⟩
  · split at hS
    · rename_i hb; subst hb; exact .inr ⟨150, g140, 1, (Option.some.inj hS).symm, does140, by decide +kernel⟩
    · split at hS
      · rename_i hb; subst hb; exact .inr ⟨101, g133, 1, (Option.some.inj hS).symm, does133, by decide +kernel⟩
      · exact .inl hS
theorem lev_2 : Lev (smG dom2 G2) := by
  refine lev_1.addR fun b S hS => ?_
  by_cases h1 : b = 154
  · subst h1; exact .inr ⟨60, 3, (Option.some.inj hS).symm, by decide +kernel⟩
  · by_cases h2 : b = 63
    · subst h2; exact .inr ⟨60, 1, (Option.some.inj hS).symm, by decide +kernel⟩
    · by_cases h3 : b = 91
      · subst h3; exact .inr ⟨60, 1, (Option.some.inj hS).symm, by decide +kernel⟩
      · by_cases h4 : b = 119
        · subst h4; exact .inr ⟨60, 1, (Option.some.inj hS).symm, by decide +kernel⟩
        · left
          unfold smG dom2 at hS
          rw [List.lookup_cons, beq_false_of_ne h1, List.lookup_cons, beq_false_of_ne h2, List.lookup_cons, beq_false_of_ne h3, List.lookup_cons, beq_false_of_ne h4] at hS
          unfold G2 at hS
          rw [if_neg h1, if_neg h2, if_neg h3, if_neg h4] at hS
          exact hS
theorem G2_154 : G2 154 = gR (smG dom1 G1) 60 154 3 := by
  unfold G2
  rw [if_pos rfl]
section
variable (lb m p : Int)
/-- the piece ahead of the cursor goes for s -/
theorem F154a (pre mid post s : List Nat) (j : Nat) (h : (pre ++ mid ++ post).length ≤ 1000) (hs : s.length ≤ 10) :
    G2 154 [.self, .str (St s)] (T (pre ++ mid ++ post) ((pre.length + mid.length + j : Nat) : Int) lb pre.length ((pre.length + mid.length : Nat) : Int) m p) = some (.none, T (pre ++ s ++ post) ((pre.length + s.length + j : Nat) : Int) lb pre.length ((pre.length + s.length : Nat) : Int) m p) := by
  rw [G2_154]
  refine (s154 G1 _ _ _ _ _ _ _ _ _).trans ?_
  simp only [List.length_append] at h
  have e1 : Txt.slice (St (pre ++ mid ++ post)) (some 0) (some ((pre.length : Nat) : Int)) = St pre := by
    refine (slice_ij _ 0 pre.length (Nat.zero_le _)).trans ?_
    rw [List.drop_zero, Nat.sub_zero, List.append_assoc, List.take_left']
    rfl
  have e2 : Txt.slice (St (pre ++ mid ++ post)) (some ((pre.length + mid.length : Nat) : Int)) none = St post := by
    rw [slice_i, List.drop_left']
    rw [List.length_append]
  rw [e1, e2, St_app, St_app, St_len, St_len, St_len, St_len, St_len]
  rw [decide_eq_true (show (0 : Int) ≤ pre.length by omega), decide_eq_true (show (pre.length : Int) ≤ ((pre.length + mid.length : Nat) : Int) by omega), decide_eq_true (show ((pre.length + mid.length : Nat) : Int) ≤ ((pre ++ mid ++ post).length : Int) by simp only [List.length_append]; omega),
    decide_eq_true (show ((pre ++ mid ++ post).length : Int) ≤ ((pre ++ mid ++ post).length : Int) by omega), Nat.ble_eq_true_of_le (show pre.length + s.length ≤ 1000000 by omega), Nat.ble_eq_true_of_le (show (pre ++ s).length + post.length ≤ 1000000 by simp only [List.length_append]; omega),
    decide_eq_true (show ((pre.length + mid.length : Nat) : Int) ≤ ((pre.length + mid.length + j : Nat) : Int) by omega)]
  show some (V.none, (⟨_, _, _, _, _, _, _, _⟩ : Tel)) = some (V.none, ⟨_, _, _, _, _, _, _, _⟩)
  congr 3
  all_goals first | omega | (simp only [List.length_append]; omega)
/-- the text's end goes -/
theorem F154b (pre mid : List Nat) (h : (pre ++ mid).length ≤ 1000) (hm : mid ≠ []) :
    G2 154 [.self, .str ""] (T (pre ++ mid) pre.length lb pre.length ((pre ++ mid).length : Nat) m p) = some (.none, T pre pre.length lb pre.length pre.length m p) := by
  have hm' : 0 < mid.length := List.length_pos_iff.mpr hm
  rw [G2_154]
  refine (s154 G1 _ _ _ _ _ _ _ _ _).trans ?_
  simp only [List.length_append] at h
  have e1 : Txt.slice (St (pre ++ mid)) (some 0) (some ((pre.length : Nat) : Int)) = St pre := by
    refine (slice_ij _ 0 pre.length (Nat.zero_le _)).trans ?_
    rw [List.drop_zero, Nat.sub_zero, List.take_left']
    rfl
  have e2 : Txt.slice (St (pre ++ mid)) (some (((pre ++ mid).length : Nat) : Int)) none = St [] := by
    rw [slice_i, List.drop_of_length_le (Nat.le_refl _)]
  rw [e1, e2, show ("" : Str) = St [] from rfl, St_app, St_app, St_len, St_len, St_len, St_len, List.append_nil, List.append_nil, List.length_nil, Nat.add_zero]
  rw [decide_eq_true (show (0 : Int) ≤ pre.length by omega), decide_eq_true (show (pre.length : Int) ≤ ((pre ++ mid).length : Int) by simp only [List.length_append]; omega),
    decide_eq_true (show ((pre ++ mid).length : Int) ≤ ((pre ++ mid).length : Int) by omega), Nat.ble_eq_true_of_le (show pre.length ≤ 1000000 by omega),
    decide_eq_false (show ¬ ((pre ++ mid).length : Int) ≤ (pre.length : Int) by simp only [List.length_append]; omega), decide_eq_false (show ¬ (pre.length : Int) < (pre.length : Int) by omega)]
  show some (V.none, (⟨_, _, _, _, _, _, _, _⟩ : Tel)) = some (V.none, ⟨_, _, _, _, _, _, _, _⟩)
  congr 3
  all_goals first | omega | (simp only [List.length_append]; omega)
end
section
variable (l : List Nat) (c : Nat) (lb b k m p : Int)
theorem vl_item (h : c < l.length) : vl.any (· == Txt.item (St l) (c : Int)) = hv (l.drop c) := by
  rw [item_St l c h, List.drop_eq_getElem_cons h]
  rfl
theorem F63 (h : c ≤ l.length) : G2 63 [.self, .cst 232] (T l c lb b k m p) = some (if hv (l.drop c) then (.bool true, T l ((c + 1 : Nat) : Int) lb b k m p) else (.bool false, T l c lb b k m p)) := by
  refine (s63 G1 _ _ _ _ _ _ _ _).trans ?_
  by_cases hc : c < l.length
  · rw [decide_eq_false (show ¬ (l.length : Int) ≤ (c : Int) by omega), decide_eq_true (show (0 : Int) ≤ c by omega), decide_eq_true (show (c : Int) < ((St l).length : Int) by rw [St_len]; omega), vl_item l c hc]
    cases hv (l.drop c) <;> rfl
  · rw [decide_eq_true (show (l.length : Int) ≤ (c : Int) by omega), List.drop_of_length_le (by omega)]
    rfl
theorem F91 (h : c ≤ l.length) : G2 91 [.self, .cst 232] (T l c lb b k m p) = some (if decide (c < l.length) && !hv (l.drop c) then (.bool true, T l ((c + 1 : Nat) : Int) lb b k m p) else (.bool false, T l c lb b k m p)) := by
  refine (s91 G1 _ _ _ _ _ _ _ _).trans ?_
  by_cases hc : c < l.length
  · rw [decide_eq_false (show ¬ (l.length : Int) ≤ (c : Int) by omega), decide_eq_true (show (0 : Int) ≤ c by omega), decide_eq_true (show (c : Int) < ((St l).length : Int) by rw [St_len]; omega), vl_item l c hc, decide_eq_true hc]
    cases hv (l.drop c) <;> rfl
  · rw [decide_eq_true (show (l.length : Int) ≤ (c : Int) by omega), decide_eq_false hc]
    rfl
theorem F119 (s : List Nat) (h : c ≤ l.length) : G2 119 [.self, .str (St s)] (T l c lb b k m p) = some (if pf s (l.drop c) then (.bool true, T l ((c + s.length : Nat) : Int) lb b k m p) else (.bool false, T l c lb b k m p)) := by
  refine (s119 G1 _ _ _ _ _ _ _ _ _).trans ?_
  rw [slice_ij l c l.length h, List.take_of_length_le (by rw [List.length_drop]; omega), starts_St, St_len]
  have e : s.isPrefixOf (l.drop c) = pf s (l.drop c) := rfl
  rw [e]
  cases pf s (l.drop c) <;> rfl
end
end Mine
end
section
set_option autoImplicit false
set_option maxRecDepth 1000000
set_option linter.all false
namespace Mine
open PySem PySem.W PySem.Calls PyProof.Rows
section
variable {R : Type} (hit : Int → Int → Option R) (miss : Option R)
theorem pf_cons (a : Nat) (s : List Nat) (x : Nat) (l : List Nat) : pf (a :: s) (x :: l) = (decide (x = a) && pf s l) := by
  show ((a == x) && _) = _
  congr 1
  by_cases h : x = a
  · subst h; simp
  · rw [beq_false_of_ne (Ne.symm h), decide_eq_false h]
theorem pf_nil (l : List Nat) : pf [] l = true := by cases l <;> rfl
theorem pf_cons_nil (a : Nat) (s : List Nat) : pf (a :: s) [] = false := rfl
theorem anB0_pf (u : List Nat) : anB0 hit miss u = if pf [104, 97, 107] u || pf [104, 97, 108] u || pf [110, 117, 112] u then hit 3 1 else miss := by
  show (if pf [104, 97, 107] u = true then hit 3 1 else if pf [104, 97, 108] u = true then hit 3 1 else if pf [110, 117, 112] u = true then hit 3 1 else miss) = _
  generalize pf [104, 97, 107] u = a
  generalize pf [104, 97, 108] u = b
  generalize pf [110, 117, 112] u = c
  cases a <;> cases b <;> cases c <;> rfl
theorem anB1_pf (u : List Nat) : anB1 hit miss u = if pf [97, 121, 110] u then hit 3 1 else if pf [117, 107] u || pf [117, 109] u then hit 2 1 else miss := by
  show (if pf [97, 121, 110] u = true then hit 3 1 else if pf [117, 107] u = true then hit 2 1 else if pf [117, 109] u = true then hit 2 1 else miss) = _
  generalize pf [97, 121, 110] u = a
  generalize pf [117, 107] u = b
  generalize pf [117, 109] u = c
  cases a <;> cases b <;> cases c <;> rfl
theorem anB2_pf (u : List Nat) : anB2 hit miss u = if pf [105] u then hit 1 2 else if pf [110, 97] u then hit 2 1 else miss := rfl
theorem anF4_pf (u : List Nat) : anF4 hit miss u = if pf [98, 101] u then hit 2 2 else if pf [112, 101] u then hit 2 1 else miss := rfl
theorem anF3_pf (u : List Nat) : anF3 hit miss u = if pf [100, 105] u then hit 2 1 else if pf [107, 101] u then hit 2 3 else if pf [116, 101, 114] u then hit 3 1 else
    if pf [109, 101, 109] u then hit 3 5 else if pf [109, 101, 110, 103] u then hit 4 1 else if pf [109, 101, 110] u then hit 3 2 else if pf [109, 101] u then hit 2 1
    else if pf [112, 101, 109] u then hit 3 6 else if pf [112, 101, 110, 103] u then hit 4 3 else if pf [112, 101, 110] u then hit 3 4 else miss := rfl
end
end Mine
end
section
set_option autoImplicit false
set_option maxRecDepth 1000000
set_option linter.all false
namespace Mine
open PySem PySem.W PySem.Calls PyProof.Rows
theorem cnt_app (a b : List Nat) : cnt (a ++ b) = cnt a + cnt b := by
  unfold cnt
  rw [List.filter_append, List.length_append]
section
variable (q v : List Nat) (b k m p : Int)
theorem back_T : backL (T (q ++ v) ((q ++ v).length : Nat) q.length b k m p) = v.reverse := by
  show (((q ++ v).drop ((q.length : Int)).toNat).take ((((q ++ v).length : Nat) : Int).toNat - ((q.length : Int)).toNat)).reverse = _
  rw [show ((q.length : Int)).toNat = q.length by omega, List.drop_left' rfl, List.take_of_length_le (by rw [List.length_append]; omega)]
theorem G2_140 : G2 140 = g140 := by
  unfold G2 G1
  rw [if_neg (by decide), if_neg (by decide), if_neg (by decide), if_neg (by decide), if_neg (by decide), if_pos rfl]
theorem G2_133 : G2 133 = g133 := by
  unfold G2 G1
  rw [if_neg (by decide), if_neg (by decide), if_neg (by decide), if_neg (by decide), if_neg (by decide), if_neg (by decide), if_pos rfl]
theorem F140_0 : G2 140 [.self, tab a0] (T (q ++ v) ((q ++ v).length : Nat) q.length b k m p) = anB0 (hitB (T (q ++ v) ((q ++ v).length : Nat) q.length b k m p)) (some (.int 0, T (q ++ v) ((q ++ v).length : Nat) q.length b k m p)) v.reverse := by
  rw [G2_140, ← back_T q v b k m p]
  unfold g140 tab
  dsimp only
  rw [if_pos ⟨by omega, by rw [List.length_append]; omega, by rw [St_len]; omega⟩, if_pos (by kernel_rfl)]
theorem F140_1 : G2 140 [.self, tab a1] (T (q ++ v) ((q ++ v).length : Nat) q.length b k m p) = anB1 (hitB (T (q ++ v) ((q ++ v).length : Nat) q.length b k m p)) (some (.int 0, T (q ++ v) ((q ++ v).length : Nat) q.length b k m p)) v.reverse := by
  rw [G2_140, ← back_T q v b k m p]
  unfold g140 tab
  dsimp only
  rw [if_pos ⟨by omega, by rw [List.length_append]; omega, by rw [St_len]; omega⟩, if_neg (by decide +kernel), if_pos (by kernel_rfl)]
theorem F140_2 : G2 140 [.self, tab a2] (T (q ++ v) ((q ++ v).length : Nat) q.length b k m p) = anB2 (hitB (T (q ++ v) ((q ++ v).length : Nat) q.length b k m p)) (some (.int 0, T (q ++ v) ((q ++ v).length : Nat) q.length b k m p)) v.reverse := by
  rw [G2_140, ← back_T q v b k m p]
  unfold g140 tab
  dsimp only
  rw [if_pos ⟨by omega, by rw [List.length_append]; omega, by rw [St_len]; omega⟩, if_neg (by decide +kernel), if_neg (by decide +kernel), if_pos (by kernel_rfl)]
end
section
variable (q v : List Nat) (b k m p : Int)
/-- an ending with one vowel goes -/
theorem rem_one (e : List Nat) (h : (q ++ v).length ≤ 1000) (he : sf e v = true) (h0 : 0 < e.length) (h1 : cnt e = 1) (c : Int) (hc : c = ((q ++ v).length : Int) - e.length) :
    del G2 (T (q ++ v) c q.length c ((q ++ v).length : Nat) (cnt (q ++ v)) p) = some (.bool true, T (q ++ v.take (v.length - e.length)) ((q ++ v.take (v.length - e.length)).length : Nat) q.length ((q ++ v.take (v.length - e.length)).length : Nat) ((q ++ v.take (v.length - e.length)).length : Nat) (cnt (q ++ v.take (v.length - e.length)) : Nat) p) := by
  obtain ⟨w, rfl⟩ := List.isSuffixOf_iff_suffix.mp he
  have e1 : (w ++ e).take ((w ++ e).length - e.length) = w := by rw [List.length_append, Nat.add_sub_cancel, List.take_left' rfl]
  rw [e1]
  have hc' : c = ((q ++ w).length : Nat) := by rw [hc]; simp only [List.length_append]; omega
  subst hc'
  have f := F154b q.length (cnt (q ++ (w ++ e))) p (q ++ w) e (by rw [List.append_assoc]; exact h) (fun hn => by rw [hn] at h0; exact absurd h0 (by decide))
  rw [List.append_assoc] at f
  unfold del putS
  rw [f]
  show some (V.bool true, (⟨_, _, _, _, _, _, _, _⟩ : Tel)) = some (V.bool true, ⟨_, _, _, _, _, _, _, _⟩)
  congr 3
  simp only [cnt_app, h1]
  omega
end
theorem sf_rev (e v : List Nat) : sf e v = pf e.reverse v.reverse := rfl
theorem parts_if (l : List Nat) : lessL l partsL = if sf [107, 97, 104] l then l.take (l.length - 3) else if sf [108, 97, 104] l then l.take (l.length - 3) else if sf [112, 117, 110] l then l.take (l.length - 3) else l := rfl
theorem owns_if (l : List Nat) : lessL l ownsL = if sf [110, 121, 97] l then l.take (l.length - 3) else if sf [107, 117] l then l.take (l.length - 2) else if sf [109, 117] l then l.take (l.length - 2) else l := rfl
theorem F239 (l : List Nat) (h : l.length ≤ 1000) (b k p : Int) : ∃ v b' k', gR (smG dom2 G2) 60 239 5 [.self] (T l (l.length : Nat) 0 b k (cnt l) p) = some (v, T (lessL l partsL) ((lessL l partsL).length : Nat) 0 b' k' (cnt (lessL l partsL)) p) := by
  have e := s239 G2 (St l) (l.length : Nat) (l.length : Nat) 0 b k (cnt l) p
  have f := F140_0 [] l b (l.length : Nat) (cnt l) p
  rw [List.nil_append] at f
  have f' : G2 140 [.self, tab a0] ⟨St l, (l.length : Nat), (l.length : Nat), 0, b, (l.length : Nat), (cnt l), p⟩ = _ := f
  rw [f', anB0_pf] at e
  have r := fun x => rem_one [] l p x h
  simp only [List.nil_append] at r
  rw [parts_if]
  by_cases q1 : sf [107, 97, 104] l = true
  · rw [if_pos q1]
    rw [if_pos (by rw [show pf [104, 97, 107] l.reverse = true from q1]; rfl)] at e
    exact ⟨_, _, _, (e.trans (by kernel_rfl)).trans (r _ q1 (by decide) (by kernel_rfl) _ rfl)⟩
  · rw [if_neg q1]
    by_cases q2 : sf [108, 97, 104] l = true
    · rw [if_pos q2]
      rw [if_pos (by rw [show pf [104, 97, 108] l.reverse = true from q2, Bool.or_true]; rfl)] at e
      exact ⟨_, _, _, (e.trans (by kernel_rfl)).trans (r _ q2 (by decide) (by kernel_rfl) _ rfl)⟩
    · rw [if_neg q2]
      by_cases q3 : sf [112, 117, 110] l = true
      · rw [if_pos q3]
        rw [if_pos (by rw [show pf [110, 117, 112] l.reverse = true from q3, Bool.or_true])] at e
        exact ⟨_, _, _, (e.trans (by kernel_rfl)).trans (r _ q3 (by decide) (by kernel_rfl) _ rfl)⟩
      · rw [if_neg q3]
        rw [if_neg (by rw [show pf [104, 97, 107] l.reverse = false from eq_false_of_ne_true q1, show pf [104, 97, 108] l.reverse = false from eq_false_of_ne_true q2, show pf [110, 117, 112] l.reverse = false from eq_false_of_ne_true q3]; decide)] at e
        exact ⟨_, _, _, e⟩
theorem F246 (l : List Nat) (h : l.length ≤ 1000) (b k p : Int) : ∃ v b' k', gR (smG dom2 G2) 60 246 5 [.self] (T l (l.length : Nat) 0 b k (cnt l) p) = some (v, T (lessL l ownsL) ((lessL l ownsL).length : Nat) 0 b' k' (cnt (lessL l ownsL)) p) := by
  have e := s246 G2 (St l) (l.length : Nat) (l.length : Nat) 0 b k (cnt l) p
  have f := F140_1 [] l b (l.length : Nat) (cnt l) p
  rw [List.nil_append] at f
  have f' : G2 140 [.self, tab a1] ⟨St l, (l.length : Nat), (l.length : Nat), 0, b, (l.length : Nat), (cnt l), p⟩ = _ := f
  rw [f', anB1_pf] at e
  have r := fun x => rem_one [] l p x h
  simp only [List.nil_append] at r
  rw [owns_if]
  by_cases q1 : sf [110, 121, 97] l = true
  · rw [if_pos q1]
    rw [if_pos (show pf [97, 121, 110] l.reverse = true from q1)] at e
    exact ⟨_, _, _, (e.trans (by kernel_rfl)).trans (r _ q1 (by decide) (by kernel_rfl) _ rfl)⟩
  · rw [if_neg q1]
    rw [if_neg (show ¬ pf [97, 121, 110] l.reverse = true from q1)] at e
    by_cases q2 : sf [107, 117] l = true
    · rw [if_pos q2]
      rw [if_pos (by rw [show pf [117, 107] l.reverse = true from q2]; rfl)] at e
      exact ⟨_, _, _, (e.trans (by kernel_rfl)).trans (r _ q2 (by decide) (by kernel_rfl) _ rfl)⟩
    · rw [if_neg q2]
      by_cases q3 : sf [109, 117] l = true
      · rw [if_pos q3]
        rw [if_pos (by rw [show pf [117, 109] l.reverse = true from q3, Bool.or_true])] at e
        exact ⟨_, _, _, (e.trans (by kernel_rfl)).trans (r _ q3 (by decide) (by kernel_rfl) _ rfl)⟩
      · rw [if_neg q3]
        rw [if_neg (by rw [show pf [117, 107] l.reverse = false from eq_false_of_ne_true q2, show pf [117, 109] l.reverse = false from eq_false_of_ne_true q3]; decide)] at e
        exact ⟨_, _, _, e⟩
end Mine
end
section
set_option autoImplicit false
set_option maxRecDepth 1000000
set_option linter.all false
namespace Mine
open PySem PySem.W PySem.Calls PyProof.Rows
theorem behind_St {R : Type} (q w e : List Nat) (x : Nat) (b k m p : Int) (no yes : Option R) (c : Int) (hc : c = ((q ++ w).length : Nat)) :
    behind (St [x]) (T (q ++ (w ++ e)) c q.length b k m p) no yes = if sf [x] w then yes else no := by
  subst hc
  show (match decide (((q ++ w).length : Int) ≤ (q.length : Int)) with
    | true => no
    | false => (match decide (0 ≤ ((q ++ w).length : Int) - 1) with
      | true => (match decide (((q ++ w).length : Int) - 1 < ((St (q ++ (w ++ e))).length : Int)) with
        | true => (match !(Txt.item (St (q ++ (w ++ e))) (((q ++ w).length : Int) - 1) == St [x]) with | true => no | false => yes)
        | false => none)
      | false => none)) = _
  rcases List.eq_nil_or_concat w with rfl | ⟨w', y, hw⟩
  · rw [decide_eq_true (show (((q ++ ([] : List Nat)).length : Nat) : Int) ≤ (q.length : Int) by simp)]
    rfl
  · rw [List.concat_eq_append] at hw
    subst hw
    have hi : (q ++ w').length < (q ++ (w' ++ [y] ++ e)).length := by simp only [List.length_append, List.length_cons, List.length_nil]; omega
    have e1 : ((q ++ (w' ++ [y])).length : Int) - 1 = ((q ++ w').length : Nat) := by simp only [List.length_append, List.length_cons, List.length_nil]; omega
    rw [decide_eq_false (show ¬ (((q ++ (w' ++ [y])).length : Nat) : Int) ≤ (q.length : Int) by simp only [List.length_append, List.length_cons, List.length_nil]; omega)]
    rw [e1, decide_eq_true (show (0 : Int) ≤ (q ++ w').length by omega), decide_eq_true (show ((q ++ w').length : Int) < ((St (q ++ (w' ++ [y] ++ e))).length : Int) by rw [St_len]; omega), item_St _ _ hi, St_beq]
    have e2 : (q ++ (w' ++ [y] ++ e))[(q ++ w').length]'hi = y := by
      simp [List.getElem_append]
    rw [e2, sf_rev, List.reverse_append]
    show (match !([y] == [x]) with | true => no | false => yes) = if pf [x] (y :: w'.reverse) = true then yes else no
    rw [pf_cons, pf_nil, Bool.and_true]
    by_cases hy : y = x
    · subst hy; simp
    · have : ([y] == [x]) = false := beq_false_of_ne (fun h => hy (List.cons.inj h).1)
      rw [this, decide_eq_false hy]
      rfl
theorem sf_app (w e s : List Nat) : sf (s ++ e) (w ++ e) = sf s w := by
  rw [sf_rev, sf_rev, List.reverse_append, List.reverse_append]
  induction e.reverse with
  | nil => rfl
  | cons x r ih => rw [List.cons_append, List.cons_append, pf_cons, decide_eq_true rfl, Bool.true_and, ih]
theorem take_ne (e v : List Nat) (h0 : 0 < e.length) (he : sf e v = true) : (v.take (v.length - e.length) == v) = false := by
  have hl : e.length ≤ v.length := (List.isSuffixOf_iff_suffix.mp he).length_le
  refine beq_false_of_ne fun h => ?_
  have := congrArg List.length h
  rw [List.length_take] at this
  omega
theorem sf_i (w : List Nat) : sf [105] (w ++ [105]) = true := sf_app w [105] []
/-- what the ending leaves behind q -/
noncomputable def Sfx (q v : List Nat) (kd : Nat) (o : Option (V × Tel)) : Prop :=
  ∃ c b k, o = some (.bool (!(lessL v (borneL kd) == v)), T (q ++ lessL v (borneL kd)) c q.length b k (cnt (q ++ lessL v (borneL kd))) kd)
noncomputable def T3 (q v : List Nat) (c : Int) (kd : Nat) : Tel := T (q ++ v) c q.length c ((q ++ v).length : Nat) (cnt (q ++ v)) kd
theorem Sfx.keep {q v : List Nat} {kd : Nat} {c b k : Int} {o : Option (V × Tel)} (hl : lessL v (borneL kd) = v) (ho : o = some (.bool false, T (q ++ v) c q.length b k (cnt (q ++ v)) kd)) : Sfx q v kd o := by
  unfold Sfx
  rw [hl, beq_self_eq_true]
  exact ⟨c, b, k, ho⟩
theorem Sfx.gone {q v : List Nat} {kd : Nat} {c : Int} {o : Option (V × Tel)} (h : (q ++ v).length ≤ 1000) (s : List Nat) (h0 : 0 < s.length) (h1 : cnt s = 1) (hs : sf s v = true) (hl : lessL v (borneL kd) = v.take (v.length - s.length)) (hc : c = ((q ++ v).length : Int) - s.length)
    (ho : o = del G2 (T3 q v c kd)) : Sfx q v kd o := by
  unfold Sfx
  rw [hl, take_ne s v h0 hs]
  exact ⟨_, _, _, ho.trans (rem_one q v kd s h hs h0 h1 c hc)⟩
theorem behind3 {q v w e : List Nat} {kd : Nat} {c : Int} (hv : v = w ++ e) (x : Nat) (no yes : Option (V × Tel)) (hc : c = ((q ++ w).length : Nat)) : behind (St [x]) (T3 q v c kd) no yes = if sf [x] w then yes else no := by
  subst hv
  exact behind_St q w e x _ _ _ _ no yes c hc
section
variable (G : Nat → Gf) (t : Tel)
theorem sufB_hi (h : 2 < t.pre) : sufB G t = some (.bool false, t) := by
  unfold sufB
  rw [decide_eq_true h]
theorem sufB_lo (h : ¬ 2 < t.pre) : sufB G t = behind "s" t (del G t) (some (.bool false, { t with cursor := t.cursor - 1 })) := by
  unfold sufB
  rw [decide_eq_false h]
noncomputable def noA : Option (V × Tel) := if t.pre = 1 then some (.bool false, t) else del G t
theorem back_same : ({ t with cursor := t.limit - (t.limit - t.cursor) } : Tel) = t := by
  rw [show t.limit - (t.limit - t.cursor) = t.cursor by omega]
theorem sufA_eq : sufA G t = if t.pre = 3 ∨ t.pre = 2 then noA G t else behind "k" t (noA G t) (del G { t with cursor := t.cursor - 1, bra := t.cursor - 1 }) := by
  unfold sufA noA
  dsimp only
  rw [back_same]
  have e : ∀ a b : Option (V × Tel), (match decide (t.pre = 1) with | true => a | false => b) = if t.pre = 1 then a else b := fun a b => by
    by_cases h : t.pre = 1
    · rw [decide_eq_true h, if_pos h]
    · rw [decide_eq_false h, if_neg h]
  by_cases h3 : t.pre = 3
  · rw [decide_eq_true h3, if_pos (.inl h3)]
    exact e _ _
  · rw [decide_eq_false h3]
    by_cases h2 : t.pre = 2
    · rw [decide_eq_true h2, if_pos (.inr h2)]
      exact e _ _
    · rw [decide_eq_false h2, if_neg (fun h => h.elim h3 h2)]
      exact congrArg (fun a => behind "k" t a _) (e _ _)
end
section
variable {q v w : List Nat} {kd : Nat} {o : Option (V × Tel)} (h : (q ++ v).length ≤ 1000) (hk : kd ≤ 4)
include h hk
theorem sfx_i (hw : v = w ++ [105]) (ho : o = sufB G2 (T3 q v (((q ++ v).length : Int) - 1) kd)) : Sfx q v kd o := by
  have hi : sf [105] v = true := by rw [hw]; exact sf_i w
  have a1 : sf [107, 97, 110] v = false := by rw [hw, sf_rev, List.reverse_append]; rfl
  have a2 : sf [97, 110] v = false := by rw [hw, sf_rev, List.reverse_append]; rfl
  have a3 : sf [115, 105] v = sf [115] w := by rw [hw]; exact sf_app w [105] [115]
  have hc : ((q ++ v).length : Int) - 1 = ((q ++ w).length : Nat) := by rw [hw]; simp only [List.length_append, List.length_cons, List.length_nil]; omega
  by_cases h2 : 2 < kd
  · refine Sfx.keep ?_ (ho.trans (sufB_hi G2 _ (show (2 : Int) < kd by omega)))
    rcases (show kd = 3 ∨ kd = 4 by omega) with rfl | rfl
    · simp [borneL, lessL, a2]
    · simp [borneL, lessL, a1, a2]
  · have hkd : kd = 0 ∨ kd = 1 ∨ kd = 2 := by omega
    have e2 := ho.trans (sufB_lo G2 _ (show ¬ (2 : Int) < kd by omega))
    have e3 := e2.trans (behind3 hw 115 (del G2 (T3 q v (((q ++ v).length : Int) - 1) kd)) (some (.bool false, { T3 q v (((q ++ v).length : Int) - 1) kd with cursor := (T3 q v (((q ++ v).length : Int) - 1) kd).cursor - 1 })) hc)
    cases hs : sf [115] w with
    | true =>
      rw [hs, if_pos rfl] at e3
      rw [hs] at a3
      refine Sfx.keep ?_ e3
      rcases hkd with rfl | rfl | rfl <;> simp [borneL, lessL, a1, a2, a3]
    | false =>
      rw [hs, if_neg (by decide)] at e3
      rw [hs] at a3
      refine Sfx.gone h [105] (by decide) (by kernel_rfl) hi ?_ rfl e3
      rcases hkd with rfl | rfl | rfl <;> simp [borneL, lessL, a1, a2, a3, hi]
theorem sfx_an (hw : v = w ++ [97, 110]) (ho : o = sufA G2 (T3 q v (((q ++ v).length : Int) - 2) kd)) : Sfx q v kd o := by
  have ha : sf [97, 110] v = true := by rw [hw]; exact sf_app w [97, 110] []
  have hi : sf [105] v = false := by rw [hw, sf_rev, List.reverse_append]; rfl
  have hsi : sf [115, 105] v = false := by rw [hw, sf_rev, List.reverse_append]; rfl
  have a1 : sf [107, 97, 110] v = sf [107] w := by rw [hw]; exact sf_app w [97, 110] [107]
  have hc : ((q ++ v).length : Int) - 2 = ((q ++ w).length : Nat) := by rw [hw]; simp only [List.length_append, List.length_cons, List.length_nil]; omega
  rw [sufA_eq] at ho
  have goneA : ∀ o : Option (V × Tel), kd ≠ 1 → o = noA G2 (T3 q v (((q ++ v).length : Int) - 2) kd) → lessL v (borneL kd) = v.take (v.length - 2) → Sfx q v kd o := fun o hk1 ho hl =>
    Sfx.gone h [97, 110] (by decide) (by kernel_rfl) ha hl rfl (ho.trans (if_neg (show ¬ ((kd : Int) = 1) by omega)))
  by_cases h23 : kd = 3 ∨ kd = 2
  · have ho2 := ho.trans (if_pos (show (kd : Int) = 3 ∨ (kd : Int) = 2 by omega))
    refine goneA o (by omega) ho2 ?_
    rcases h23 with rfl | rfl <;> simp [borneL, lessL, ha]
  · have ho2 := ho.trans (if_neg (show ¬ ((kd : Int) = 3 ∨ (kd : Int) = 2) by omega))
    have hkd : kd = 0 ∨ kd = 1 ∨ kd = 4 := by omega
    have e3 := ho2.trans (behind3 hw 107 (noA G2 (T3 q v (((q ++ v).length : Int) - 2) kd)) (del G2 (T3 q v (((q ++ v).length : Int) - 2 - 1) kd)) hc)
    cases hs : sf [107] w with
    | true =>
      rw [hs, if_pos rfl] at e3
      rw [hs] at a1
      refine Sfx.gone h [107, 97, 110] (by decide) (by kernel_rfl) a1 ?_ (show ((q ++ v).length : Int) - 2 - 1 = _ by show _ = ((q ++ v).length : Int) - 3; omega) e3
      rcases hkd with rfl | rfl | rfl <;> simp [borneL, lessL, a1]
    | false =>
      rw [hs, if_neg (by decide)] at e3
      rw [hs] at a1
      rcases hkd with rfl | rfl | rfl
      · exact goneA o (by decide) e3 (by simp [borneL, lessL, a1, ha])
      · exact Sfx.keep (by simp [borneL, lessL, a1, hsi, hi]) (e3.trans (if_pos rfl))
      · exact goneA o (by decide) e3 (by simp [borneL, lessL, a1, ha])
end
theorem ans_hit {R : Type} {hit : Int → Int → Option R} {miss : Option R} {u k : List Nat} {r : Int} {t : List (List Nat × Int)} (h : pf k u = true) : ansI hit miss u ((k, r) :: t) = hit k.length r := if_pos h
theorem ans_skip {R : Type} {hit : Int → Int → Option R} {miss : Option R} {u k : List Nat} {r : Int} {t : List (List Nat × Int)} (h : ¬ pf k u = true) : ansI hit miss u ((k, r) :: t) = ansI hit miss u t := if_neg h
theorem F253 (q v : List Nat) (h : (q ++ v).length ≤ 1000) (kd : Nat) (hk : kd ≤ 4) (b k : Int) : Sfx q v kd (gR (smG dom2 G2) 60 253 5 [.self] (T (q ++ v) ((q ++ v).length : Nat) q.length b k (cnt (q ++ v)) kd)) := by
  have e := (s253 G2 (St (q ++ v)) ((q ++ v).length : Nat) ((q ++ v).length : Nat) q.length b k (cnt (q ++ v)) kd).trans (congrArg (fun o => onG o (k253 G2)) (F140_2 q v b ((q ++ v).length : Nat) (cnt (q ++ v)) kd))
  by_cases hi : sf [105] v = true
  · obtain ⟨w, hw⟩ := List.isSuffixOf_iff_suffix.mp hi
    exact sfx_i h hk hw.symm ((e.trans (congrArg (fun o => onG o (k253 G2)) (ans_hit (show pf [105] v.reverse = true from hi)))).trans (by kernel_rfl))
  · have e := e.trans (congrArg (fun o => onG o (k253 G2)) (ans_skip (show ¬ pf [105] v.reverse = true from hi)))
    by_cases ha : sf [97, 110] v = true
    · obtain ⟨w, hw⟩ := List.isSuffixOf_iff_suffix.mp ha
      exact sfx_an h hk hw.symm ((e.trans (congrArg (fun o => onG o (k253 G2)) (ans_hit (show pf [110, 97] v.reverse = true from ha)))).trans (by kernel_rfl))
    · have e := e.trans (congrArg (fun o => onG o (k253 G2)) (ans_skip (show ¬ pf [110, 97] v.reverse = true from ha)))
      have hi' := eq_false_of_ne_true hi
      have ha' := eq_false_of_ne_true ha
      have hsi : sf [115, 105] v = false := eq_false_of_ne_true fun hs => hi (List.isSuffixOf_iff_suffix.mpr ((show [105] <:+ [115, 105] from ⟨[115], rfl⟩).trans (List.isSuffixOf_iff_suffix.mp hs)))
      have hkan : sf [107, 97, 110] v = false := eq_false_of_ne_true fun hs => ha (List.isSuffixOf_iff_suffix.mpr ((show [97, 110] <:+ [107, 97, 110] from ⟨[107], rfl⟩).trans (List.isSuffixOf_iff_suffix.mp hs)))
      refine Sfx.keep ?_ e
      rcases (show kd = 0 ∨ kd = 1 ∨ kd = 2 ∨ kd = 3 ∨ kd = 4 by omega) with rfl | rfl | rfl | rfl | rfl <;> simp [borneL, lessL, hkan, ha', hsi, hi']
end Mine
end
section
set_option autoImplicit false
set_option maxRecDepth 1000000
set_option linter.all false
namespace Mine
open PySem PySem.W PySem.Calls PyProof.Rows
section
variable (l : List Nat) (c : Nat) (lb b k m p : Int)
theorem fore_T : foreL (T l c lb b k m p) = l.drop c := by
  show l.drop ((c : Int)).toNat = _
  rw [show ((c : Int)).toNat = c by omega]
theorem F133_3 (h : c ≤ l.length) : G2 133 [.self, tab a3] (T l c lb b k m p) = anF3 (hitF (T l c lb b k m p)) (some (.int 0, T l c lb b k m p)) (l.drop c) := by
  rw [G2_133, ← fore_T l c lb b k m p]
  unfold g133 tab
  dsimp only
  rw [if_pos ⟨by omega, by rw [St_len]; omega, by rw [St_len]⟩, if_pos (by kernel_rfl)]
theorem F133_4 (h : c ≤ l.length) : G2 133 [.self, tab a4] (T l c lb b k m p) = anF4 (hitF (T l c lb b k m p)) (some (.int 0, T l c lb b k m p)) (l.drop c) := by
  rw [G2_133, ← fore_T l c lb b k m p]
  unfold g133 tab
  dsimp only
  rw [if_pos ⟨by omega, by rw [St_len]; omega, by rw [St_len]⟩, if_neg (by decide +kernel), if_pos (by kernel_rfl)]
theorem ahead_St {R : Type} (x : Nat) (h : c ≤ l.length) (no yes : Option R) : ahead (St [x]) (T l c lb b k m p) no yes = if pf [x] (l.drop c) then yes else no := by
  show (match decide ((c : Int) = (l.length : Int)) with
    | true => no
    | false => (match decide (0 ≤ (c : Int)) with
      | true => (match decide ((c : Int) < ((St l).length : Int)) with
        | true => (match !(Txt.item (St l) (c : Int) == St [x]) with | true => no | false => yes)
        | false => none)
      | false => none)) = _
  by_cases hc : c < l.length
  · rw [decide_eq_false (show ¬ (c : Int) = (l.length : Int) by omega), decide_eq_true (show (0 : Int) ≤ c by omega), decide_eq_true (show (c : Int) < ((St l).length : Int) by rw [St_len]; omega), item_St l c hc, St_beq, List.drop_eq_getElem_cons hc, pf_cons, pf_nil, Bool.and_true]
    by_cases hy : l[c] = x
    · subst hy; simp
    · rw [show ([l[c]] == [x]) = false from beq_false_of_ne (fun h => hy (List.cons.inj h).1), decide_eq_false hy]
      rfl
  · rw [decide_eq_true (show (c : Int) = (l.length : Int) by omega), List.drop_of_length_le (by omega)]
    rfl
end
section
variable (d r : List Nat) (q m p : Int) (h : (d ++ r).length ≤ 1000)
include h
theorem firA_St : firA G2 q (T (d ++ r) (d.length : Nat) 0 0 (d.length : Nat) m p) = some (.bool true, T r 0 0 0 0 (m - 1) q) := by
  have f := F154a 0 m p [] d r [] 0 h (by decide)
  rw [List.length_nil, Nat.zero_add, Nat.add_zero] at f
  unfold firA putS
  rw [show ("" : Str) = St [] from rfl]
  have f' : G2 154 [.self, .str (St [])] (T (d ++ r) (d.length : Nat) 0 0 (d.length : Nat) m p) = _ := f
  rw [f']
  rfl
theorem firC_St : firC G2 q (T (d ++ r) (d.length : Nat) 0 0 (d.length : Nat) m p) = some (.bool true, if hv r then T (112 :: r) 1 0 0 1 (m - 1) q else T r 0 0 0 0 (m - 1) q) := by
  unfold firC
  have e := F63 (d ++ r) d.length 0 0 (d.length : Nat) (m - 1) q (by rw [List.length_append]; omega)
  rw [List.drop_left' rfl] at e
  have e' : G2 63 [.self, .cst 232] { T (d ++ r) (d.length : Nat) 0 0 (d.length : Nat) m p with pre := q, meas := m - 1 } = _ := e
  have e2 : G2 63 [.self, .cst 232] { T (d ++ r) (d.length : Nat) 0 0 (d.length : Nat) m p with pre := q, meas := (T (d ++ r) (d.length : Nat) 0 0 (d.length : Nat) m p).meas - 1 } = _ := e
  rw [e2]
  cases hh : hv r with
  | true =>
    have f := F154a 0 (m - 1) q [] d r [112] 0 h (by decide)
    rw [List.length_nil, Nat.zero_add, Nat.add_zero] at f
    have f' : G2 154 [.self, .str "p"] (T (d ++ r) (d.length : Nat) 0 0 (d.length : Nat) (m - 1) q) = _ := f
    refine Eq.trans (b := onG (G2 154 [.self, .str "p"] (T (d ++ r) (d.length : Nat) 0 0 (d.length : Nat) (m - 1) q)) (fun _ t => some (V.bool true, t))) (by kernel_rfl) ?_
    rw [f']
    rfl
  | false =>
    have f := F154a 0 (m - 1) q [] d r [] 0 h (by decide)
    rw [List.length_nil, Nat.zero_add, Nat.add_zero] at f
    have f' : G2 154 [.self, .str ""] (T (d ++ r) (d.length : Nat) 0 0 (d.length : Nat) (m - 1) q) = _ := f
    refine Eq.trans (b := onG (G2 154 [.self, .str ""] (T (d ++ r) (d.length : Nat) 0 0 (d.length : Nat) (m - 1) q)) (fun _ t => some (V.bool true, t))) (by kernel_rfl) ?_
    rw [f']
    rfl
theorem firB_St : firB G2 q (T (d ++ r) (d.length : Nat) 0 0 (d.length : Nat) m p) = some (.bool true, if pf [121] r && hv (r.drop 1) then T (115 :: r.drop 1) 1 0 0 1 (m - 1) q else T r 0 0 0 0 (m - 1) q) := by
  unfold firB
  rw [show ("y" : Str) = St [121] from rfl, ahead_St (d ++ r) d.length 0 0 (d.length : Nat) m p 121 (by rw [List.length_append]; omega), List.drop_left' rfl]
  rw [firA_St d r q m p h]
  cases hy : pf [121] r with
  | false => rfl
  | true =>
    obtain ⟨r', rfl⟩ := List.isPrefixOf_iff_prefix.mp hy
    have e := F63 (d ++ ([121] ++ r')) (d.length + 1) 0 0 (d.length : Nat) m p (by simp only [List.length_append, List.length_cons, List.length_nil]; omega)
    have e0 : (d ++ ([121] ++ r') : List Nat).drop (d.length + 1) = r' := by rw [← List.append_assoc]; exact List.drop_left' (by simp)
    rw [e0] at e
    have e' : G2 63 [.self, .cst 232] { T (d ++ ([121] ++ r')) (d.length : Nat) 0 0 (d.length : Nat) m p with cursor := (T (d ++ ([121] ++ r')) (d.length : Nat) 0 0 (d.length : Nat) m p).cursor + 1 } = _ := e
    rw [if_pos rfl, e']
    cases hh : hv r' with
    | true =>
      have f := F154a 0 m p [] (d ++ [121]) r' [115] 0 (by rw [List.nil_append, List.append_assoc]; exact h) (by decide)
      rw [List.length_nil, Nat.zero_add, Nat.add_zero, List.nil_append, List.append_assoc, List.length_append] at f
      have f' : G2 154 [.self, .str "s"] (T (d ++ ([121] ++ r')) ((d.length : Int) + 1) 0 0 ((d.length : Int) + 1) m p) = _ := f
      refine Eq.trans (b := onG (G2 154 [.self, .str "s"] (T (d ++ ([121] ++ r')) ((d.length : Int) + 1) 0 0 ((d.length : Int) + 1) m p)) (fun _ t => tookP q t)) (by kernel_rfl) ?_
      rw [f']
      rw [show List.drop 1 ([121] ++ r') = r' from rfl]
      rw [hh]
      rfl
    | false =>
      refine Eq.trans (b := firA G2 q (T (d ++ ([121] ++ r')) (d.length : Nat) 0 0 (d.length : Nat) m p)) (by kernel_rfl) ?_
      rw [firA_St d ([121] ++ r') q m p h]
      rw [show List.drop 1 ([121] ++ r') = r' from rfl]
      rw [hh]
      rfl
end
end Mine
end
section
set_option autoImplicit false
set_option maxRecDepth 1000000
set_option linter.all false
namespace Mine
open PySem PySem.W PySem.Calls PyProof.Rows
/-- what the first prefix leaves -/
noncomputable def Fst (l : List Nat) (o : Option (V × Tel)) : Prop :=
  ((firstL l).2.2 = 0 → ∃ b k, o = some (.bool false, T l 0 0 b k (cnt l) 0)) ∧
  ((firstL l).2.2 ≠ 0 → ∃ b k, o = some (.bool true, T ((firstL l).1 ++ (firstL l).2.1) ((firstL l).1.length : Nat) 0 b k (cnt ((firstL l).1 ++ (firstL l).2.1)) (firstL l).2.2))
theorem Fst.took {l : List Nat} {o : Option (V × Tel)} {a r : List Nat} {q : Nat} {b k : Int} (hq : q ≠ 0) (e : firstL l = (a, r, q)) (h : o = some (.bool true, T (a ++ r) (a.length : Nat) 0 b k (cnt (a ++ r)) q)) : Fst l o := by
  unfold Fst
  rw [e]
  exact ⟨fun x => absurd x hq, fun _ => ⟨b, k, h⟩⟩
theorem Fst.left {l : List Nat} {o : Option (V × Tel)} {b k : Int} (e : firstL l = ([], l, 0)) (h : o = some (.bool false, T l 0 0 b k (cnt l) 0)) : Fst l o := by
  unfold Fst
  rw [e]
  exact ⟨fun _ => ⟨b, k, h⟩, fun x => absurd rfl x⟩
section
variable (d r : List Nat) (q : Nat) (h : (d ++ r).length ≤ 1000) (hq : q ≠ 0) (hd : cnt d = 1)
include h hq hd
theorem cnt_less : ((cnt (d ++ r) : Nat) : Int) - 1 = (cnt r : Nat) := by rw [cnt_app, hd]; omega
theorem fst_A0 {o : Option (V × Tel)} (e : firstL (d ++ r) = ([], r, q)) (ho : o = firA G2 q (T (d ++ r) (d.length : Nat) 0 0 (d.length : Nat) (cnt (d ++ r)) 0)) : Fst (d ++ r) o := by
  refine Fst.took (b := 0) (k := 0) hq e ?_
  rw [ho, firA_St d r q _ _ h, cnt_less d r q h hq hd]
  rfl
theorem fst_B0 {o : Option (V × Tel)} (e : firstL (d ++ r) = if pf [121] r && hv (r.drop 1) then ([115], r.drop 1, q) else ([], r, q)) (ho : o = firB G2 q (T (d ++ r) (d.length : Nat) 0 0 (d.length : Nat) (cnt (d ++ r)) 0)) : Fst (d ++ r) o := by
  rw [firB_St d r q _ _ h, cnt_less d r q h hq hd] at ho
  cases hc : (pf [121] r && hv (r.drop 1)) with
  | true =>
    rw [hc, if_pos rfl] at e ho
    refine Fst.took (b := 0) (k := 1) hq e ?_
    have h1 : pf [121] r = true := (Bool.and_eq_true_iff.mp hc).1
    obtain ⟨r', rfl⟩ := List.isPrefixOf_iff_prefix.mp h1
    have hz : cnt ([121] ++ r') = cnt ([115] ++ r') := by
      rw [cnt_app, cnt_app]
      rw [show cnt [121] = 0 by kernel_rfl, show cnt [115] = 0 by kernel_rfl]
    rw [ho, hz]
    rfl
  | false =>
    rw [hc, if_neg (by decide)] at e ho
    exact Fst.took (b := 0) (k := 0) hq e ho
theorem fst_C0 {o : Option (V × Tel)} (e : firstL (d ++ r) = if hv r then ([112], r, q) else ([], r, q)) (ho : o = firC G2 q (T (d ++ r) (d.length : Nat) 0 0 (d.length : Nat) (cnt (d ++ r)) 0)) : Fst (d ++ r) o := by
  rw [firC_St d r q _ _ h, cnt_less d r q h hq hd] at ho
  cases hc : hv r with
  | true =>
    rw [hc, if_pos rfl] at e ho
    refine Fst.took (b := 0) (k := 1) hq e ?_
    have hz : cnt r = cnt ([112] ++ r) := by
      rw [cnt_app]
      rw [show cnt [112] = 0 by kernel_rfl, Nat.zero_add]
    rw [ho, hz]
    rfl
  | false =>
    rw [hc, if_neg (by decide)] at e ho
    exact Fst.took (b := 0) (k := 0) hq e ho
end
theorem nf {b : Bool} (h : ¬ b = true) : b = false := eq_false_of_ne_true h
theorem pf_split {d l : List Nat} (h : pf d l = true) : ∃ r, l = d ++ r := by
  obtain ⟨r, hr⟩ := List.isPrefixOf_iff_prefix.mp h
  exact ⟨r, hr.symm⟩
theorem pf_app (s r : List Nat) : ∀ d : List Nat, pf (d ++ s) (d ++ r) = pf s r
  | [] => rfl
  | x :: d => by rw [List.cons_append, List.cons_append, pf_cons, decide_eq_true rfl, Bool.true_and, pf_app s r d]
theorem pf_no {l d r s : List Nat} (hl : l = d ++ r) (h : ¬ pf (d ++ s) l = true) : pf s r = false := by
  subst hl
  rw [pf_app] at h
  exact eq_false_of_ne_true h
theorem first_no {l : List Nat} (q1 : ¬ pf [100, 105] l = true) (q2 : ¬ pf [107, 101] l = true) (q3 : ¬ pf [116, 101, 114] l = true) (q4 : ¬ pf [109, 101] l = true) (q5 : ¬ pf [112, 101, 109] l = true) (q7 : ¬ pf [112, 101, 110] l = true) : firstL l = ([], l, 0) := by
  have hf : fsL l = ([], l, 0) := by
    unfold fsL
    rw [if_neg q1, if_neg q3, if_neg q4, if_neg q2]
  by_cases q8 : pf [112, 101] l = true
  · obtain ⟨r, rfl⟩ := pf_split q8
    have n1 : pf [109] r = false := pf_no (d := [112, 101]) (s := [109]) rfl q5
    have n2 : pf [110] r = false := pf_no (d := [112, 101]) (s := [110]) rfl q7
    unfold firstL
    rw [hf]
    cases r with
    | nil => rfl
    | cons x r =>
      rw [pf_cons, pf_nil, Bool.and_true] at n1 n2
      have nx := of_decide_eq_false n1
      have ny := of_decide_eq_false n2
      simp [pf_cons, pf_nil, nx, ny]
  · unfold firstL
    rw [nf q4, nf q8, hf]
    rfl
section
variable {l : List Nat} (d r : List Nat) (q : Nat) (hl : l = d ++ r) (h : l.length ≤ 1000) (hq : q ≠ 0) (hd : cnt d = 1)
include hl h hq hd
theorem fst_A {o : Option (V × Tel)} (e : firstL (d ++ r) = ([], r, q)) (ho : o = firA G2 q (T l (d.length : Nat) 0 0 (d.length : Nat) (cnt l) 0)) : Fst l o := by
  subst hl
  exact fst_A0 d r q h hq hd e ho
theorem fst_B {o : Option (V × Tel)} (e : firstL (d ++ r) = if pf [121] r && hv (r.drop 1) then ([115], r.drop 1, q) else ([], r, q)) (ho : o = firB G2 q (T l (d.length : Nat) 0 0 (d.length : Nat) (cnt l) 0)) : Fst l o := by
  subst hl
  exact fst_B0 d r q h hq hd e ho
theorem fst_C {o : Option (V × Tel)} (e : firstL (d ++ r) = if hv r then ([112], r, q) else ([], r, q)) (ho : o = firC G2 q (T l (d.length : Nat) 0 0 (d.length : Nat) (cnt l) 0)) : Fst l o := by
  subst hl
  exact fst_C0 d r q h hq hd e ho
end
theorem F260 (l : List Nat) (h : l.length ≤ 1000) (b k : Int) : Fst l (gR (smG dom2 G2) 60 260 5 [.self] (T l 0 0 b k (cnt l) 0)) := by
  have up := fun {o o' : Option (V × Tel)} (x : o = o') => congrArg (fun o => onG o (k260 G2)) x
  have e := (s260 G2 (St l) 0 (l.length : Nat) 0 b k (cnt l) 0).trans (up (F133_3 l 0 0 0 k (cnt l) 0 (Nat.zero_le _)))
  by_cases q1 : pf [100, 105] l = true
  · obtain ⟨r, hl⟩ := pf_split q1
    replace e := e.trans (up (ans_hit q1))
    exact fst_A [100, 105] r 1 hl h (by decide) (by kernel_rfl) rfl (e.trans (by kernel_rfl))
  replace e := e.trans (up (ans_skip q1))
  by_cases q2 : pf [107, 101] l = true
  · obtain ⟨r, hl⟩ := pf_split q2
    replace e := e.trans (up (ans_hit q2))
    exact fst_A [107, 101] r 3 hl h (by decide) (by kernel_rfl) rfl (e.trans (by kernel_rfl))
  replace e := e.trans (up (ans_skip q2))
  by_cases q3 : pf [116, 101, 114] l = true
  · obtain ⟨r, hl⟩ := pf_split q3
    replace e := e.trans (up (ans_hit q3))
    exact fst_A [116, 101, 114] r 1 hl h (by decide) (by kernel_rfl) rfl (e.trans (by kernel_rfl))
  replace e := e.trans (up (ans_skip q3))
  by_cases p1 : pf [109, 101, 109] l = true
  · obtain ⟨r, hl⟩ := pf_split p1
    replace e := e.trans (up (ans_hit p1))
    exact fst_C [109, 101, 109] r 1 hl h (by decide) (by kernel_rfl) rfl (e.trans (by kernel_rfl))
  replace e := e.trans (up (ans_skip p1))
  by_cases p2 : pf [109, 101, 110, 103] l = true
  · obtain ⟨r, hl⟩ := pf_split p2
    replace e := e.trans (up (ans_hit p2))
    exact fst_A [109, 101, 110, 103] r 1 hl h (by decide) (by kernel_rfl) rfl (e.trans (by kernel_rfl))
  replace e := e.trans (up (ans_skip p2))
  by_cases p3 : pf [109, 101, 110] l = true
  · obtain ⟨r, hl⟩ := pf_split p3
    replace e := e.trans (up (ans_hit p3))
    refine fst_B [109, 101, 110] r 1 hl h (by decide) (by kernel_rfl) ?_ (e.trans (by kernel_rfl))
    have n3 : pf [103] r = false := pf_no (s := [103]) hl p2
    cases r with
    | nil => rfl
    | cons x r =>
      rw [pf_cons, pf_nil, Bool.and_true] at n3
      have nx := of_decide_eq_false n3
      simp [firstL, pf_cons, pf_nil, nx, kdL]
  replace e := e.trans (up (ans_skip p3))
  by_cases q4 : pf [109, 101] l = true
  · replace e := e.trans (up (ans_hit q4))
    obtain ⟨r, hl⟩ := pf_split q4
    refine fst_A [109, 101] r 1 hl h (by decide) (by kernel_rfl) ?_ (e.trans (by kernel_rfl))
    have n1 : pf [109] r = false := pf_no (s := [109]) hl p1
    have n2 : pf [110] r = false := pf_no (s := [110]) hl p3
    cases r with
    | nil => rfl
    | cons x r =>
      rw [pf_cons, pf_nil, Bool.and_true] at n1 n2
      have nx := of_decide_eq_false n1
      have ny := of_decide_eq_false n2
      simp [firstL, fsL, pf_cons, pf_nil, nx, ny]
  replace e := e.trans (up (ans_skip q4))
  by_cases q5 : pf [112, 101, 109] l = true
  · obtain ⟨r, hl⟩ := pf_split q5
    replace e := e.trans (up (ans_hit q5))
    exact fst_C [112, 101, 109] r 3 hl h (by decide) (by kernel_rfl) rfl (e.trans (by kernel_rfl))
  replace e := e.trans (up (ans_skip q5))
  by_cases q6 : pf [112, 101, 110, 103] l = true
  · obtain ⟨r, hl⟩ := pf_split q6
    replace e := e.trans (up (ans_hit q6))
    exact fst_A [112, 101, 110, 103] r 3 hl h (by decide) (by kernel_rfl) rfl (e.trans (by kernel_rfl))
  replace e := e.trans (up (ans_skip q6))
  by_cases q7 : pf [112, 101, 110] l = true
  · obtain ⟨r, hl⟩ := pf_split q7
    replace e := e.trans (up (ans_hit q7))
    refine fst_B [112, 101, 110] r 3 hl h (by decide) (by kernel_rfl) ?_ (e.trans (by kernel_rfl))
    have n3 : pf [103] r = false := pf_no (s := [103]) hl q6
    cases r with
    | nil => rfl
    | cons x r =>
      rw [pf_cons, pf_nil, Bool.and_true] at n3
      have nx := of_decide_eq_false n3
      simp [firstL, pf_cons, pf_nil, nx, kdL]
  replace e := e.trans (up (ans_skip q7))
  exact Fst.left (first_no q1 q2 q3 q4 q5 q7) e
end Mine
end
section
set_option autoImplicit false
set_option maxRecDepth 1000000
set_option linter.all false
namespace Mine
open PySem PySem.W PySem.Calls PyProof.Rows
/-- what the second prefix leaves behind q -/
noncomputable def Sec (q u : List Nat) (p : Nat) (lb : Int) (o : Option (V × Tel)) : Prop :=
  ∃ c b k x, o = some (.bool x, T (q ++ (secondL u).1) c lb b k (cnt (q ++ (secondL u).1)) ((if (secondL u).2 = 0 then p else (secondL u).2 : Nat)))
theorem secE_St (q d r : List Nat) (j : Nat) (lb m p : Int) (h : (q ++ d ++ r).length ≤ 1000) :
    secE G2 (T (q ++ d ++ r) ((q.length + d.length + j : Nat) : Int) lb q.length ((q.length + d.length : Nat) : Int) m p) = some (.bool true, T (q ++ r) ((q.length + j : Nat) : Int) lb q.length (q.length : Nat) (m - 1) p) := by
  have f := F154a lb (m - 1) p q d r [] j h (by decide)
  rw [List.append_nil, List.length_nil, Nat.add_zero] at f
  unfold secE putS
  have f' : G2 154 [.self, .str ""] { T (q ++ d ++ r) ((q.length + d.length + j : Nat) : Int) lb q.length ((q.length + d.length : Nat) : Int) m p with meas := (T (q ++ d ++ r) ((q.length + d.length + j : Nat) : Int) lb q.length ((q.length + d.length : Nat) : Int) m p).meas - 1 } = _ := f
  rw [f']
  rfl
theorem Sec.took {q d r : List Nat} {p s j : Nat} {lb : Int} {o : Option (V × Tel)} (h : (q ++ d ++ r).length ≤ 1000) (hd : cnt d = 1) (e : secondL (d ++ r) = (r, s))
    (ho : o = secE G2 (T (q ++ d ++ r) ((q.length + d.length + j : Nat) : Int) lb q.length ((q.length + d.length : Nat) : Int) (cnt (q ++ d ++ r)) ((if s = 0 then p else s : Nat)))) : Sec q (d ++ r) p lb o := by
  unfold Sec
  rw [e]
  rw [secE_St q d r j lb _ _ h] at ho
  have hz : ((cnt (q ++ d ++ r) : Nat) : Int) - 1 = (cnt (q ++ r) : Nat) := by simp only [cnt_app, hd]; omega
  rw [hz] at ho
  exact ⟨_, _, _, _, ho⟩
theorem Sec.left {q u : List Nat} {p : Nat} {lb c b k : Int} {x : Bool} {o : Option (V × Tel)} (e : secondL u = (u, 0)) (ho : o = some (.bool x, T (q ++ u) c lb b k (cnt (q ++ u)) p)) : Sec q u p lb o := by
  unfold Sec
  rw [e]
  exact ⟨_, _, _, _, ho⟩
theorem Sec.left2 {q d r : List Nat} {p : Nat} {lb c b k : Int} {x : Bool} {o : Option (V × Tel)} (e : secondL (d ++ r) = (d ++ r, 0)) (ho : o = some (.bool x, T (q ++ d ++ r) c lb b k (cnt (q ++ d ++ r)) p)) : Sec q (d ++ r) p lb o := by
  rw [List.append_assoc] at ho
  exact Sec.left e ho
theorem sec_L {q d r : List Nat} {lb b k m p : Int} (h : (q ++ d ++ r).length ≤ 1000) (no yes : Tel → Option (V × Tel)) :
    secL G2 (T (q ++ d ++ r) ((q.length + d.length : Nat) : Int) lb b k m p) no yes =
      if pf [108, 97, 106, 97, 114] r then yes (T (q ++ d ++ r) ((q.length + d.length + 1 + 4 : Nat) : Int) lb b ((q.length + d.length + 1 : Nat) : Int) m p)
      else if pf [108] r then no (T (q ++ d ++ r) ((q.length + d.length : Nat) : Int) lb b ((q.length + d.length + 1 : Nat) : Int) m p)
      else no (T (q ++ d ++ r) ((q.length + d.length : Nat) : Int) lb b k m p) := by
  have hdr : (q ++ d ++ r).drop (q.length + d.length) = r := List.drop_left' (by rw [List.length_append])
  unfold secL
  rw [show ("l" : Str) = St [108] from rfl, ahead_St (q ++ d ++ r) (q.length + d.length) lb b k m p 108 (by simp only [List.length_append]; omega), hdr]
  cases h1 : pf [108] r with
  | false =>
    rw [if_neg (by decide), if_neg (by
      cases r with
      | nil => decide
      | cons x r =>
        rw [pf_cons, pf_nil, Bool.and_true] at h1
        rw [pf_cons, h1, Bool.false_and]
        decide)]
    rfl
  | true =>
    obtain ⟨r', rfl⟩ := pf_split h1
    have hl : q.length + d.length + 1 ≤ (q ++ d ++ ([108] ++ r')).length := by simp only [List.length_append, List.length_cons, List.length_nil]; omega
    have hdr2 : (q ++ d ++ ([108] ++ r')).drop (q.length + d.length + 1) = r' := by
      rw [← List.append_assoc (q ++ d)]
      exact List.drop_left' (by simp only [List.length_append, List.length_cons, List.length_nil])
    have f := F119 (q ++ d ++ ([108] ++ r')) (q.length + d.length + 1) lb b ((q.length + d.length + 1 : Nat) : Int) m p [97, 106, 97, 114] hl
    rw [hdr2] at f
    have f' : G2 119 [.self, .str "ajar"] { T (q ++ d ++ ([108] ++ r')) ((q.length + d.length : Nat) : Int) lb b k m p with cursor := (T (q ++ d ++ ([108] ++ r')) ((q.length + d.length : Nat) : Int) lb b k m p).cursor + 1, ket := (T (q ++ d ++ ([108] ++ r')) ((q.length + d.length : Nat) : Int) lb b k m p).cursor + 1 } = _ := f
    rw [if_pos rfl, f']
    have h2 : pf [108, 97, 106, 97, 114] ([108] ++ r') = pf [97, 106, 97, 114] r' := rfl
    rw [h2]
    cases pf [97, 106, 97, 114] r' <;> rfl
theorem sec_A {q r : List Nat} {p : Nat} {lb k : Int} (h : (q ++ [112, 101] ++ r).length ≤ 1000) {o : Option (V × Tel)}
    (ho : o = secA G2 (T (q ++ [112, 101] ++ r) ((q.length + 2 : Nat) : Int) lb q.length k (cnt (q ++ [112, 101] ++ r)) p)) : Sec q ([112, 101] ++ r) p lb o := by
  have hdr : (q ++ [112, 101] ++ r).drop (q.length + 2) = r := List.drop_left' (by rw [List.length_append]; rfl)
  unfold secA at ho
  have hl := sec_L (q := q) (d := [112, 101]) (r := r) (lb := lb) (b := q.length) (k := k) (m := cnt (q ++ [112, 101] ++ r)) (p := p) h
  rw [show ("r" : Str) = St [114] from rfl, ahead_St (q ++ [112, 101] ++ r) (q.length + 2) lb q.length k _ p 114 (by simp only [List.length_append, List.length_cons, List.length_nil]; omega), hdr] at ho
  by_cases h1 : pf [114] r = true
  · obtain ⟨r', rfl⟩ := pf_split h1
    rw [if_pos h1] at ho
    have ea : q ++ [112, 101] ++ ([114] ++ r') = q ++ [112, 101, 114] ++ r' := by simp
    rw [ea] at ho h
    refine Sec.took (q := q) (d := [112, 101, 114]) (r := r') (p := p) (s := 2) (j := 0) h (by kernel_rfl) rfl (ho.trans (by kernel_rfl))
  rw [if_neg h1] at ho
  have h1' := nf h1
  have hl' : secL G2 (T (q ++ [112, 101] ++ r) ((q.length + 2 : Nat) : Int) lb q.length k (cnt (q ++ [112, 101] ++ r)) p) _ _ = _ := hl (fun u => secE G2 { u with cursor := ((q.length + 2 : Nat) : Int), ket := ((q.length + 2 : Nat) : Int), pre := 2 }) (secE G2)
  replace ho := ho.trans hl'
  by_cases h2 : pf [108, 97, 106, 97, 114] r = true
  · obtain ⟨r', rfl⟩ := pf_split h2
    rw [if_pos h2] at ho
    have ea : q ++ [112, 101] ++ ([108, 97, 106, 97, 114] ++ r') = q ++ [112, 101, 108] ++ ([97, 106, 97, 114] ++ r') := by simp
    rw [ea] at ho h
    refine Sec.took (q := q) (d := [112, 101, 108]) (r := [97, 106, 97, 114] ++ r') (p := p) (s := 0) (j := 4) h (by kernel_rfl) rfl (ho.trans (by kernel_rfl))
  rw [if_neg h2] at ho
  have h2' := nf h2
  have hs : secondL ([112, 101] ++ r) = (r, 2) := by
    have e1 : pf [98, 101, 114] ([112, 101] ++ r) = false := rfl
    have e2 : pf [98, 101, 108, 97, 106, 97, 114] ([112, 101] ++ r) = false := rfl
    have e3 : pf [112, 101, 114] ([112, 101] ++ r) = pf [114] r := rfl
    have e4 : pf [112, 101, 108, 97, 106, 97, 114] ([112, 101] ++ r) = pf [108, 97, 106, 97, 114] r := rfl
    unfold secondL
    rw [e1, e2, e3, e4, h1', h2']
    rfl
  by_cases h3 : pf [108] r = true
  · rw [if_pos h3] at ho
    exact Sec.took (q := q) (d := [112, 101]) (r := r) (p := p) (s := 2) (j := 0) h (by kernel_rfl) hs (ho.trans (by kernel_rfl))
  · rw [if_neg h3] at ho
    exact Sec.took (q := q) (d := [112, 101]) (r := r) (p := p) (s := 2) (j := 0) h (by kernel_rfl) hs (ho.trans (by kernel_rfl))
noncomputable def noB (c : Int) (u : Tel) : Option (V × Tel) := onG (G2 91 [.self, .cst 232] { u with cursor := c, ket := c }) fun v x => isT v
      (onG (G2 119 [.self, .str "er"] x) fun v y => isT v (secE G2 { y with pre := 4 }) (some (.bool false, y))) (some (.bool false, x))
theorem sec_no {q r : List Nat} {p : Nat} {lb k : Int} (h : (q ++ [98, 101] ++ r).length ≤ 1000) (h1 : pf [114] r = false) (h2 : pf [108, 97, 106, 97, 114] r = false) {c : Int} {o : Option (V × Tel)}
    (ho : o = noB ((q.length + 2 : Nat) : Int) (T (q ++ [98, 101] ++ r) c lb q.length k (cnt (q ++ [98, 101] ++ r)) p)) : Sec q ([98, 101] ++ r) p lb o := by
  have hdr : (q ++ [98, 101] ++ r).drop (q.length + 2) = r := List.drop_left' (by rw [List.length_append]; rfl)
  have e1 : pf [98, 101, 114] ([98, 101] ++ r) = pf [114] r := rfl
  have e2 : pf [98, 101, 108, 97, 106, 97, 114] ([98, 101] ++ r) = pf [108, 97, 106, 97, 114] r := rfl
  have e3 : pf [112, 101, 114] ([98, 101] ++ r) = false := rfl
  have e4 : pf [112, 101, 108, 97, 106, 97, 114] ([98, 101] ++ r) = false := rfl
  have e5 : pf [112, 101] ([98, 101] ++ r) = false := rfl
  have e6 : pf [98, 101] ([98, 101] ++ r) = true := by cases r <;> rfl
  have hs : secondL ([98, 101] ++ r) = if !hv r && ((r.drop 1).take 2 == [101, 114]) then (r, 4) else ([98, 101] ++ r, 0) := by
    unfold secondL
    rw [e1, e2, e3, e4, e5, e6, h1, h2]
    rfl
  have f := F91 (q ++ [98, 101] ++ r) (q.length + 2) lb q.length ((q.length + 2 : Nat) : Int) (cnt (q ++ [98, 101] ++ r)) p (by simp only [List.length_append, List.length_cons, List.length_nil]; omega)
  rw [hdr] at f
  unfold noB at ho
  have f' : G2 91 [.self, .cst 232] { T (q ++ [98, 101] ++ r) c lb q.length k (cnt (q ++ [98, 101] ++ r)) p with cursor := ((q.length + 2 : Nat) : Int), ket := ((q.length + 2 : Nat) : Int) } = _ := f
  rw [f'] at ho
  cases r with
  | nil =>
    have d1 : decide (q.length + 2 < (q ++ [98, 101] ++ ([] : List Nat)).length) = false := decide_eq_false (by simp)
    rw [d1] at ho
    exact Sec.left2 (by rw [hs]; rfl) ho
  | cons x r =>
    have d1 : decide (q.length + 2 < (q ++ [98, 101] ++ x :: r : List Nat).length) = true := decide_eq_true (by simp only [List.length_append, List.length_cons, List.length_nil]; omega)
    rw [d1, Bool.true_and] at ho
    have hx : hv (x :: r) = isV x := rfl
    cases hvv : isV x with
    | true =>
      rw [hx, hvv] at ho hs
      exact Sec.left2 hs ho
    | false =>
      rw [hx, hvv] at ho hs
      have hdr2 : (q ++ [98, 101] ++ x :: r).drop (q.length + 2 + 1) = r := by
        rw [show q ++ [98, 101] ++ x :: r = (q ++ [98, 101, x]) ++ r by simp]
        exact List.drop_left' (by rw [List.length_append]; rfl)
      have g := F119 (q ++ [98, 101] ++ x :: r) (q.length + 2 + 1) lb q.length ((q.length + 2 : Nat) : Int) (cnt (q ++ [98, 101] ++ x :: r)) p [101, 114] (by simp only [List.length_append, List.length_cons, List.length_nil]; omega)
      rw [hdr2] at g
      have ho2 : o = onG (G2 119 [.self, .str "er"] (T (q ++ [98, 101] ++ x :: r) ((q.length + 2 + 1 : Nat) : Int) lb q.length ((q.length + 2 : Nat) : Int) (cnt (q ++ [98, 101] ++ x :: r)) p)) fun v y => isT v (secE G2 { y with pre := 4 }) (some (.bool false, y)) := ho.trans (by kernel_rfl)
      have g' : G2 119 [.self, .str "er"] (T (q ++ [98, 101] ++ x :: r) ((q.length + 2 + 1 : Nat) : Int) lb q.length ((q.length + 2 : Nat) : Int) (cnt (q ++ [98, 101] ++ x :: r)) p) = _ := g
      rw [g'] at ho2
      have ht : (((x :: r).drop 1).take 2 == [101, 114]) = pf [101, 114] r := by
        rw [Bool.beq_comm]; exact take_pf2 r 101 114
      rw [ht] at hs
      cases hp : pf [101, 114] r with
      | true =>
        rw [hp] at hs ho2
        exact Sec.took (q := q) (d := [98, 101]) (r := x :: r) (p := p) (s := 4) (j := 3) h (by kernel_rfl) hs (ho2.trans (by kernel_rfl))
      | false =>
        rw [hp] at hs ho2
        exact Sec.left2 hs ho2
theorem sec_B {q r : List Nat} {p : Nat} {lb k : Int} (h : (q ++ [98, 101] ++ r).length ≤ 1000) {o : Option (V × Tel)}
    (ho : o = secB G2 (T (q ++ [98, 101] ++ r) ((q.length + 2 : Nat) : Int) lb q.length k (cnt (q ++ [98, 101] ++ r)) p)) : Sec q ([98, 101] ++ r) p lb o := by
  have hdr : (q ++ [98, 101] ++ r).drop (q.length + 2) = r := List.drop_left' (by rw [List.length_append]; rfl)
  unfold secB at ho
  have hl := sec_L (q := q) (d := [98, 101]) (r := r) (lb := lb) (b := q.length) (k := k) (m := cnt (q ++ [98, 101] ++ r)) (p := p) h
  rw [show ("r" : Str) = St [114] from rfl, ahead_St (q ++ [98, 101] ++ r) (q.length + 2) lb q.length k _ p 114 (by simp only [List.length_append, List.length_cons, List.length_nil]; omega), hdr] at ho
  by_cases h1 : pf [114] r = true
  · obtain ⟨r', rfl⟩ := pf_split h1
    rw [if_pos h1] at ho
    have ea : q ++ [98, 101] ++ ([114] ++ r') = q ++ [98, 101, 114] ++ r' := by simp
    rw [ea] at ho h
    refine Sec.took (q := q) (d := [98, 101, 114]) (r := r') (p := p) (s := 4) (j := 0) h (by kernel_rfl) rfl (ho.trans (by kernel_rfl))
  rw [if_neg h1] at ho
  have hl' : secL G2 (T (q ++ [98, 101] ++ r) ((q.length + 2 : Nat) : Int) lb q.length k (cnt (q ++ [98, 101] ++ r)) p) _ _ = _ := hl (noB ((q.length + 2 : Nat) : Int)) (fun u => secE G2 { u with pre := 4 })
  replace ho := ho.trans hl'
  by_cases h2 : pf [108, 97, 106, 97, 114] r = true
  · obtain ⟨r', rfl⟩ := pf_split h2
    rw [if_pos h2] at ho
    have ea : q ++ [98, 101] ++ ([108, 97, 106, 97, 114] ++ r') = q ++ [98, 101, 108] ++ ([97, 106, 97, 114] ++ r') := by simp
    rw [ea] at ho h
    refine Sec.took (q := q) (d := [98, 101, 108]) (r := [97, 106, 97, 114] ++ r') (p := p) (s := 4) (j := 4) h (by kernel_rfl) rfl (ho.trans (by kernel_rfl))
  rw [if_neg h2] at ho
  by_cases h3 : pf [108] r = true
  · rw [if_pos h3] at ho
    exact sec_no h (nf h1) (nf h2) ho
  · rw [if_neg h3] at ho
    exact sec_no h (nf h1) (nf h2) ho
theorem F267 (q u : List Nat) (h : (q ++ u).length ≤ 1000) (p : Nat) (lb b k : Int) : Sec q u p lb (gR (smG dom2 G2) 60 267 5 [.self] (T (q ++ u) (q.length : Nat) lb b k (cnt (q ++ u)) p)) := by
  have e := s267 G2 (St (q ++ u)) (q.length : Nat) ((q ++ u).length : Nat) lb b k (cnt (q ++ u)) p
  have f : G2 133 [.self, tab a4] ⟨St (q ++ u), (q.length : Nat), ((q ++ u).length : Nat), lb, (q.length : Nat), k, (cnt (q ++ u)), p⟩ = _ := F133_4 (q ++ u) q.length lb (q.length : Nat) k (cnt (q ++ u)) p (by rw [List.length_append]; omega)
  rw [f, anF4_pf, List.drop_left' rfl] at e
  by_cases q1 : pf [98, 101] u = true
  · obtain ⟨r, rfl⟩ := pf_split q1
    rw [if_pos q1] at e
    rw [← List.append_assoc] at e h ⊢
    exact sec_B (k := k) h (e.trans (by kernel_rfl))
  rw [if_neg q1] at e
  by_cases q2 : pf [112, 101] u = true
  · obtain ⟨r, rfl⟩ := pf_split q2
    rw [if_pos q2] at e
    rw [← List.append_assoc] at e h ⊢
    exact sec_A (k := k) h (e.trans (by kernel_rfl))
  rw [if_neg q2] at e
  refine Sec.left ?_ e
  have no1 : ∀ s, pf ([98, 101] ++ s) u = false := fun s => nf fun hs => q1 (by
    obtain ⟨r, rfl⟩ := pf_split hs
    cases s <;> rfl)
  have no2 : ∀ s, pf ([112, 101] ++ s) u = false := fun s => nf fun hs => q2 (by
    obtain ⟨r, rfl⟩ := pf_split hs
    cases s <;> rfl)
  unfold secondL
  rw [show pf [98, 101, 114] u = false from no1 [114], show pf [98, 101, 108, 97, 106, 97, 114] u = false from no1 [108, 97, 106, 97, 114], show pf [112, 101, 114] u = false from no2 [114], show pf [112, 101, 108, 97, 106, 97, 114] u = false from no2 [108, 97, 106, 97, 114], nf q1, nf q2]
  rfl
end Mine
end
section
set_option autoImplicit false
set_option maxRecDepth 1000000
set_option linter.all false
namespace Mine
open PySem PySem.W PySem.Calls PyProof.Rows
noncomputable def G3 : Nat → Gf := fun b => if b = 239 then gR (smG dom2 G2) 60 239 5 else if b = 246 then gR (smG dom2 G2) 60 246 5 else if b = 253 then gR (smG dom2 G2) 60 253 5 else if b = 260 then gR (smG dom2 G2) 60 260 5 else if b = 267 then gR (smG dom2 G2) 60 267 5 else G2 b
noncomputable def G4 : Nat → Gf := fun b => if b = 274 then gR (smG dom3 G3) 1046 274 6 else G3 b
theorem lev_3 : Lev (smG dom3 G3) := by
  refine lev_2.addR fun b S hS => ?_
  by_cases h1 : b = 239
  · subst h1; exact .inr ⟨60, 5, (Option.some.inj hS).symm, by decide +kernel⟩
  · by_cases h2 : b = 246
    · subst h2; exact .inr ⟨60, 5, (Option.some.inj hS).symm, by decide +kernel⟩
    · by_cases h3 : b = 253
      · subst h3; exact .inr ⟨60, 5, (Option.some.inj hS).symm, by decide +kernel⟩
      · by_cases h4 : b = 260
        · subst h4; exact .inr ⟨60, 5, (Option.some.inj hS).symm, by decide +kernel⟩
        · by_cases h5 : b = 267
          · subst h5; exact .inr ⟨60, 5, (Option.some.inj hS).symm, by decide +kernel⟩
          · left
            unfold smG dom3 at hS
            rw [List.lookup_cons, beq_false_of_ne h1, List.lookup_cons, beq_false_of_ne h2, List.lookup_cons, beq_false_of_ne h3, List.lookup_cons, beq_false_of_ne h4, List.lookup_cons, beq_false_of_ne h5] at hS
            unfold G3 at hS
            rw [if_neg h1, if_neg h2, if_neg h3, if_neg h4, if_neg h5] at hS
            exact hS
theorem lev_4 : Lev (smG dom4 G4) := by
  refine lev_3.addR fun b S hS => ?_
  by_cases h1 : b = 274
  · subst h1; exact .inr ⟨1046, 6, (Option.some.inj hS).symm, by decide +kernel⟩
  · left
    unfold smG dom4 at hS
    rw [List.lookup_cons, beq_false_of_ne h1] at hS
    unfold G4 at hS
    rw [if_neg h1] at hS
    exact hS
theorem G3_98 : G3 98 = g98 := by
  unfold G3 G2 G1
  rw [if_neg (by decide), if_neg (by decide), if_neg (by decide), if_neg (by decide), if_neg (by decide), if_neg (by decide), if_neg (by decide), if_neg (by decide), if_neg (by decide), if_pos rfl]
theorem G3_239 : G3 239 = gR (smG dom2 G2) 60 239 5 := rfl
theorem G3_246 : G3 246 = gR (smG dom2 G2) 60 246 5 := by unfold G3; rw [if_neg (by decide), if_pos rfl]
theorem G3_253 : G3 253 = gR (smG dom2 G2) 60 253 5 := by unfold G3; rw [if_neg (by decide), if_neg (by decide), if_pos rfl]
theorem G3_260 : G3 260 = gR (smG dom2 G2) 60 260 5 := by unfold G3; rw [if_neg (by decide), if_neg (by decide), if_neg (by decide), if_pos rfl]
theorem G3_267 : G3 267 = gR (smG dom2 G2) 60 267 5 := by unfold G3; rw [if_neg (by decide), if_neg (by decide), if_neg (by decide), if_neg (by decide), if_pos rfl]
theorem nxt_none : ∀ {r : List Nat}, nxt r = none → cnt r = 0
  | [], _ => rfl
  | x :: r, h => by
    unfold nxt at h
    cases q : isV x with
    | true => rw [q] at h; cases h
    | false =>
      rw [q] at h
      dsimp only at h
      cases q2 : nxt r with
      | some j => rw [q2] at h; cases h
      | none =>
        have := nxt_none q2
        unfold cnt at this ⊢
        rw [List.filter_cons, q, if_neg (by decide)]
        exact this
theorem nxt_some : ∀ {r : List Nat} {j : Nat}, nxt r = some j → ∃ r1 x r2, r = r1 ++ x :: r2 ∧ r1.length = j ∧ cnt r = cnt r2 + 1
  | x :: r, j, h => by
    unfold nxt at h
    cases q : isV x with
    | true =>
      rw [q] at h
      obtain rfl := Option.some.inj h
      refine ⟨[], x, r, rfl, rfl, ?_⟩
      unfold cnt
      rw [List.filter_cons, q, if_pos rfl, List.length_cons]
    | false =>
      rw [q] at h
      dsimp only at h
      cases q2 : nxt r with
      | none => rw [q2] at h; cases h
      | some i =>
        rw [q2] at h
        obtain rfl := Option.some.inj h
        obtain ⟨r1, y, r2, e1, e2, e3⟩ := nxt_some q2
        refine ⟨x :: r1, y, r2, by rw [e1]; rfl, by rw [List.length_cons, e2], ?_⟩
        rw [← e3]
        unfold cnt
        rw [List.filter_cons, q, if_neg (by decide)]
theorem F98 (pre r : List Nat) (h : (pre ++ r).length ≤ 1000) (lb b k m p : Int) : G3 98 [.self, .cst 232] (T (pre ++ r) (pre.length : Nat) lb b k m p) =
    (match nxt r with
    | some j => some (.bool true, T (pre ++ r) ((pre.length : Int) + j) lb b k m p)
    | none => some (.bool false, T (pre ++ r) ((pre ++ r).length : Nat) lb b k m p)) := by
  rw [G3_98]
  unfold g98
  dsimp only
  rw [if_pos ⟨rfl, by omega, by rw [List.length_append]; omega, by rw [St_len], by rw [St_len]; exact h⟩, St_cps, show ((pre.length : Int)).toNat = pre.length by omega, List.drop_left' rfl]
  all_goals (cases nxt r <;> rfl)
theorem loop274 (lb b k p : Int) (x : V) (K : Ks (V × Tel)) : ∀ (n : Nat) (r pre : List Nat) (y : V) (m : Int), r.length ≤ n → (pre ++ r).length ≤ 1000 →
    ∃ z c, run (W3 G3) (n + 10) (.whl w274.1 w274.2 ⟨fnS (mSt 6 8), 5, l274 x y, T (pre ++ r) (pre.length : Nat) lb b k m p⟩ K) = K.next ⟨fnS (mSt 6 8), 5, l274 x z, T (pre ++ r) c lb b k (m + (cnt r : Nat)) p⟩
  | 0, r, pre, y, m, h, hl => by
    have : r = [] := List.length_eq_zero_iff.mp (by omega)
    subst this
    rw [s274b G3 0, F98 pre [] hl]
    refine ⟨.int (pre.length : Nat), (pre.length : Nat), ?_⟩
    rw [show m + ((cnt [] : Nat) : Int) = m from Int.add_zero m]
    rfl
  | n + 1, r, pre, y, m, h, hl => by
    rw [s274b G3 (n + 1), F98 pre r hl]
    cases q : nxt r with
    | none =>
      refine ⟨.int (pre.length : Nat), (pre.length : Nat), ?_⟩
      rw [nxt_none q, show m + ((0 : Nat) : Int) = m from Int.add_zero m]
      rfl
    | some j =>
      obtain ⟨r1, v, r2, e1, e2, e3⟩ := nxt_some q
      subst e1
      have ea : pre ++ (r1 ++ v :: r2) = (pre ++ r1 ++ [v]) ++ r2 := by simp
      have hl2 : r2.length ≤ n := by simp only [List.length_append, List.length_cons] at h; omega
      obtain ⟨z, c, ih⟩ := loop274 lb b k p x K n r2 (pre ++ r1 ++ [v]) (.int (pre.length : Nat)) (m + 1) hl2 (by rw [← ea]; exact hl)
      refine ⟨z, c, ?_⟩
      rw [ea] at *
      have e4 : (pre.length : Int) + (j : Int) + 1 = ((pre ++ r1 ++ [v]).length : Nat) := by simp only [List.length_append, List.length_cons, List.length_nil]; omega
      have e5 : m + ((cnt (r1 ++ v :: r2) : Nat) : Int) = m + 1 + (cnt r2 : Nat) := by rw [e3]; omega
      rw [e5]
      refine Eq.trans ?_ ih
      show run (W3 G3) (n + 10) (.whl w274.1 w274.2 ⟨fnS (mSt 6 8), 5, l274 x (.int (pre.length : Nat)), ⟨St (pre ++ r1 ++ [v] ++ r2), (pre.length : Int) + (j : Int) + 1, ((pre ++ r1 ++ [v] ++ r2).length : Nat), lb, b, k, m + 1, p⟩⟩ K) = _
      rw [e4]
end Mine
end
section
set_option autoImplicit false
set_option maxRecDepth 1000000
set_option linter.all false
namespace Mine
open PySem PySem.W PySem.Calls PyProof.Rows
/-- the answer's text is l -/
noncomputable def Ends (o : Option (V × Tel)) (l : List Nat) : Prop := ∃ v t, o = some (v, t) ∧ t.cur = St l
theorem few_T (t : Tel) (l : List Nat) (ht : t.meas = (cnt l : Nat)) (yes no : Option (V × Tel)) : few t yes no = if lng l then no else yes := by
  unfold few lng
  rw [ht]
  by_cases h : 2 < cnt l
  · rw [decide_eq_false (show ¬ ((cnt l : Nat) : Int) ≤ 2 by omega), if_pos (decide_eq_true h)]
  · rw [decide_eq_true (show ((cnt l : Nat) : Int) ≤ 2 by omega), if_neg (by rw [decide_eq_false h]; decide)]
theorem isT_both (x : Bool) (a : Option (V × Tel)) : isT (.bool x) a a = a := by cases x <;> rfl
theorem cnt_lost (l : List Nat) : cnt (firstL l).1 = 0 := by
  have fs : cnt (fsL l).1 = 0 := by
    unfold fsL
    repeat' split
    all_goals rfl
  unfold firstL
  repeat' split
  all_goals first | exact fs | kernel_rfl
theorem Ends.endS {t : Tel} {l : List Nat} (c : Int) (h : t.cur = St l) : Ends (endS t c) l := ⟨_, _, rfl, h⟩
theorem Ends.both {t : Tel} {l : List Nat} (x : Bool) (c : Int) (h : t.cur = St l) : Ends (onG (some (.bool x, t)) fun v y => isT v (Mine.endS y c) (Mine.endS y c)) l := by
  cases x <;> exact ⟨_, _, rfl, h⟩
theorem stC_ends (l : List Nat) (h : l.length ≤ 900) (b k : Int) : Ends (stemC G3 (T l 0 0 b k (cnt l : Nat) 0)) (stC l) := by
  have f := F260 l (by omega) b k
  have hf := first_le l
  unfold stemC
  rw [G3_260]
  by_cases h0 : (firstL l).2.2 = 0
  · obtain ⟨b1, k1, e⟩ := f.1 h0
    unfold stC
    rw [e, if_pos h0]
    have g := F267 [] l (by rw [List.nil_append]; omega) 0 0 b1 k1
    obtain ⟨c2, b2, k2, x2, e2⟩ := g
    have hs := second_le l
    have hk : (if (secondL l).2 = 0 then 0 else (secondL l).2) = (secondL l).2 := by
      split
      · rename_i q; exact q.symm
      · rfl
    rw [hk] at e2
    have hk4 : (secondL l).2 ≤ 4 := by rcases second_kd l with q | q | q <;> omega
    generalize secondL l = s at e2 hs hk hk4
    have e2' : G3 267 [.self] { T l 0 0 b1 k1 (cnt l : Nat) 0 with cursor := 0 } = some (.bool x2, T s.1 c2 0 b2 k2 (cnt s.1) s.2) := by
      rw [G3_267]; exact e2
    refine (?_ : Ends (onG (G3 267 [.self] { T l 0 0 b1 k1 (cnt l : Nat) 0 with cursor := 0 }) fun _ x => few x (endS x 0) (onG (G3 253 [.self] { x with lb := 0, cursor := x.limit }) fun v y => isT v (endS y 0) (endS y 0))) _)
    rw [e2']
    show Ends (few (T s.1 c2 0 b2 k2 (cnt s.1 : Nat) s.2) (endS (T s.1 c2 0 b2 k2 (cnt s.1 : Nat) s.2) 0) (onG (G3 253 [.self] (T s.1 (s.1.length : Nat) 0 b2 k2 (cnt s.1 : Nat) s.2)) fun v y => isT v (endS y 0) (endS y 0))) (lessD false s.2 [] s.1)
    rw [few_T _ s.1 rfl]
    unfold lessD
    cases hl : lng s.1 with
    | false => exact Ends.endS 0 rfl
    | true =>
      obtain ⟨c3, b3, k3, e3⟩ := F253 [] s.1 (by rw [List.nil_append]; omega) s.2 hk4 b2 k2
      have e3' : G3 253 [.self] (T s.1 (s.1.length : Nat) 0 b2 k2 (cnt s.1 : Nat) s.2) = some (.bool (!(lessL s.1 (borneL s.2) == s.1)), T (lessL s.1 (borneL s.2)) c3 0 b3 k3 (cnt (lessL s.1 (borneL s.2))) s.2) := by
        rw [G3_253]; exact e3
      rw [if_pos rfl, e3']
      exact Ends.both _ 0 rfl
  · obtain ⟨b1, k1, e⟩ := f.2 h0
    have hkd : (firstL l).2.2 ≤ 4 := by rcases first_kd l with q | q | q <;> omega
    have hz := cnt_lost l
    unfold stC
    rw [e, if_neg h0]
    generalize firstL l = y at hf h0 hkd hz
    obtain ⟨lost, rest, kd⟩ := y
    dsimp only at hf h0 hkd hz ⊢
    have lz : ∀ r, lng (lost ++ r) = lng r := fun r => by unfold lng; rw [cnt_app, hz, Nat.zero_add]
    refine (?_ : Ends (few (T (lost ++ rest) (lost.length : Nat) 0 b1 k1 (cnt (lost ++ rest) : Nat) kd) (endS (T (lost ++ rest) (lost.length : Nat) 0 b1 k1 (cnt (lost ++ rest) : Nat) kd) 0) (onG (G3 253 [.self] (T (lost ++ rest) ((lost ++ rest).length : Nat) (lost.length : Nat) b1 k1 (cnt (lost ++ rest) : Nat) kd)) fun v w => isT v
      (few w (endS w 0) (onG (G3 267 [.self] { w with cursor := (lost.length : Nat) }) fun v x => isT v (endS x 0) (endS x 0))) (endS w 0))) (lessD true kd lost rest))
    rw [few_T _ (lost ++ rest) rfl, lz]
    unfold lessD
    cases hl : lng rest with
    | false =>
      rw [if_neg (by decide), if_neg (by decide)]
      unfold lessF
      rw [beq_self_eq_true]
      exact Ends.endS 0 rfl
    | true =>
      rw [if_pos rfl, if_pos rfl]
      have hr := lessL_le rest (borneL kd)
      obtain ⟨c3, b3, k3, e3⟩ := F253 lost rest (by rw [List.length_append]; omega) kd hkd b1 k1
      rw [← G3_253] at e3
      rw [e3]
      generalize lessL rest (borneL kd) = v at hr e3 ⊢
      unfold lessF
      cases hv : (v == rest) with
      | true =>
        obtain rfl := eq_of_beq hv
        exact ⟨_, _, rfl, rfl⟩
      | false =>
        refine (?_ : Ends (few (T (lost ++ v) c3 (lost.length : Nat) b3 k3 (cnt (lost ++ v) : Nat) kd) (endS (T (lost ++ v) c3 (lost.length : Nat) b3 k3 (cnt (lost ++ v) : Nat) kd) 0) (onG (G3 267 [.self] (T (lost ++ v) (lost.length : Nat) (lost.length : Nat) b3 k3 (cnt (lost ++ v) : Nat) kd)) fun v x => isT v (endS x 0) (endS x 0))) _)
        rw [few_T _ (lost ++ v) rfl, lz]
        cases hl2 : lng v with
        | false => exact Ends.endS 0 rfl
        | true =>
          obtain ⟨c4, b4, k4, x4, e4⟩ := F267 lost v (by rw [List.length_append]; omega) kd (lost.length : Nat) b3 k3
          rw [← G3_267] at e4
          rw [e4]
          exact Ends.both x4 0 rfl
theorem stB_ends (l : List Nat) (h : l.length ≤ 900) (b k : Int) : Ends (stemB G3 (T l (l.length : Nat) 0 b k (cnt l : Nat) 0)) (stB (lessL l ownsL)) := by
  obtain ⟨v1, b1, k1, e1⟩ := F246 l (by omega) b k 0
  rw [← G3_246] at e1
  unfold stemB
  rw [e1]
  have hl := lessL_le l ownsL
  generalize lessL l ownsL = w at hl e1 ⊢
  refine (?_ : Ends (few (T w (w.length : Nat) 0 b1 k1 (cnt w : Nat) 0) (some (.bool false, T w 0 0 b1 k1 (cnt w : Nat) 0)) (stemC G3 (T w 0 0 b1 k1 (cnt w : Nat) 0))) _)
  rw [few_T _ w rfl]
  unfold stB
  cases hq : lng w with
  | false => exact ⟨_, _, rfl, rfl⟩
  | true => exact stC_ends w (by omega) b1 k1
theorem stA_ends (l : List Nat) (h : l.length ≤ 900) (b k : Int) : Ends (stemA G3 (T l (l.length : Nat) 0 b k (cnt l : Nat) 0)) (stA (lessL l partsL)) := by
  obtain ⟨v1, b1, k1, e1⟩ := F239 l (by omega) b k 0
  rw [← G3_239] at e1
  unfold stemA
  rw [e1]
  have hl := lessL_le l partsL
  generalize lessL l partsL = w at hl e1 ⊢
  have hc : ((w.length : Nat) : Int) - ((l.length : Nat) - (l.length : Nat)) = (w.length : Nat) := by omega
  refine (?_ : Ends (few (T w (w.length : Nat) 0 b1 k1 (cnt w : Nat) 0) (some (.bool false, T w (((w.length : Nat) : Int) - ((l.length : Nat) - (l.length : Nat))) 0 b1 k1 (cnt w : Nat) 0)) (stemB G3 (T w (((w.length : Nat) : Int) - ((l.length : Nat) - (l.length : Nat))) 0 b1 k1 (cnt w : Nat) 0))) _)
  rw [few_T _ w rfl, hc]
  unfold stA
  cases hq : lng w with
  | false =>
    refine ⟨_, _, rfl, ?_⟩
    show St w = St (stB w)
    unfold stB
    rw [hq]
    rfl
  | true => exact stB_ends w (by omega) b1 k1
theorem F274 (l : List Nat) (h : l.length ≤ 900) (b k m p : Int) : Ends (gR (smG dom3 G3) 1046 274 6 [.self] (T l 0 0 b k m p)) (stemL l) := by
  have e := s274a G3 1040 (St l) 0 (l.length : Nat) 0 b k m p
  obtain ⟨z, c, e2⟩ := loop274 0 b k p (.int 0) (kW G3 1040) 1031 l [] .undef 0 (by omega) (by rw [List.nil_append]; omega)
  rw [List.nil_append, kW_next] at e2
  have e3 := s274c G3 1000 (St l) 0 (l.length : Nat) 0 b k ((0 : Int) + (cnt l : Nat)) p z c
  have e4 : gR (smG dom3 G3) 1046 274 6 [.self] (T l 0 0 b k m p) = _ := e.trans (e2.trans e3)
  rw [e4, Int.zero_add]
  refine (?_ : Ends (few (T l 0 0 b k (cnt l : Nat) p) (some (.bool false, T l 0 0 b k (cnt l : Nat) p)) (stemA G3 (T l (l.length : Nat) 0 b k (cnt l : Nat) 0))) _)
  rw [few_T _ l rfl]
  unfold stemL
  cases hq : lng l with
  | false =>
    refine ⟨_, _, rfl, ?_⟩
    show St l = St (stA l)
    unfold stA
    rw [hq]
    show St l = St (stB l)
    unfold stB
    rw [hq]
    rfl
  | true => exact stA_ends l h b k
theorem G4_274 : G4 274 = gR (smG dom3 G3) 1046 274 6 := by unfold G4; rw [if_pos rfl]
theorem F189 (l : List Nat) (h : l.length ≤ 900) (t : Tel) : ∃ t', gR (smG dom4 G4) 60 189 7 [.self, .str (St l)] t = some (.str (St (stemL l)), t') := by
  obtain ⟨v, t', e1, e2⟩ := F274 l h 0 (l.length : Nat) t.meas t.pre
  rw [← G4_274] at e1
  have e := s189 G4 t.cur t.cursor t.limit t.lb t.bra t.ket t.meas t.pre (St l)
  have e' : gR (smG dom4 G4) 60 189 7 [.self, .str (St l)] t = onG (G4 274 [.self] (T l 0 0 0 (l.length : Nat) t.meas t.pre)) fun _ u => some (.str u.cur, u) := e
  rw [e', e1]
  exact ⟨t', by show some (V.str t'.cur, t') = _; rw [e2]⟩
end Mine
end
section
set_option autoImplicit false
set_option maxRecDepth 1000000
set_option linter.all false
namespace Mine
open PySem PySem.W PySem.Calls PyProof.Rows
noncomputable def stemS (w : Str) : Str := St (stemL w.cps.toList)
noncomputable def telS (w : Str) (t : Tel) : Tel := match gR (smG dom4 G4) 60 189 7 [.self, .str w] t with
  | some r => r.2
  | none => t
noncomputable def smL : Nat → Option Summ := smF stemS telS
theorem lev_L : Lev smL := by
  refine lv_n.addC [(189, S189 stemS telS), (461, S461 stemS)] fun q hq => ?_
  rcases List.mem_cons.mp hq with rfl | hq
  · refine ⟨by decide +kernel, smG dom4 G4, 60, lev_4, fun R args t k r hr => ?_⟩
    unfold S189 at hr
    dsimp only at hr
    split at hr
    · rename_i w
      split at hr
      · rename_i h
        have hl := Nat.le_of_ble_eq_true h
        obtain ⟨t', e⟩ := F189 w.cps.toList (by exact hl) t
        rw [← St_of] at e
        have ht : telS w t = t' := by unfold telS; rw [e]
        exact ⟨_, _, e, by rw [← ht]; exact hr⟩
      · cases hr
    · cases hr
  · rcases List.mem_cons.mp hq with rfl | hq
    · refine ⟨by decide +kernel, sm3, 80, lev3, fun R args t k r hr => ?_⟩
      unfold S461 at hr
      dsimp only at hr
      split at hr
      · rename_i w
        split at hr
        · rename_i h
          have hl := Nat.le_of_ble_eq_true h
          have hl' : w.cps.toList.length ≤ 900 := hl
          have e := F461 t (l := w.cps.toList) (by omega)
          rw [← St_of] at e
          exact ⟨_, _, e, hr⟩
        · cases hr
      · cases hr
    · cases hq
end Mine
end
section
set_option autoImplicit false
set_option maxRecDepth 1000000
set_option linter.all false
namespace Mine
open PySem PySem.W PySem.Calls PyProof.Rows

noncomputable def keepB : List Stmt := [topSt 0, topSt 2, topSt 4, topSt 6, topSt 7, topSt 8, topSt 10, topSt 11, topSt 12, topSt 13, topSt 14, topSt 15, topSt 16, topSt 17, topSt 18, topSt 19, topSt 20, topSt 21, topSt 22, topSt 23, topSt 24, topSt 25]
noncomputable def qv : Program := { pr with main := { pr.main with body := keepB } }
noncomputable def loose : List Str := ["IndonesianStemmer", "_law_openers", "_law_signs", "_law_closers", "_law_particles", "_law_owners", "_law_borne"]
noncomputable def HK : Hook := kHook KK asK asK_eq
theorem open_eq : opening pr = plainProg pr.main.scope.names := by kernel_rfl
theorem fence_eq (s : Shared) : fenceModules? pr s = some s := by kernel_rfl
theorem open_ (w : World) : (fencedOpening treeTable pr w 12578).map (fun s => (s.heap, s.gens, s.drawn, s.toks)) = some (boot_heap w.params, Array.mk [], boot_drawn, boot_toks) :=
  boot_open open_eq (by decide) fence_eq w
theorem size_ (w : World) : ((boot_heap w.params).isNs mainGlobals && (#[] : Array GenState).size == 0, (boot_heap w.params).objs.size, (boot_heap w.params).nsMap mainGlobals "__annotations__") = (true, 11, nn) := by kernel_rfl
theorem run_ (w : World) (os : OsState) : topRun treeTable pr w 11 nn (12 + (1 + (39 + (988 + (245 + NA))))) ⟨boot_heap w.params, ⟨[]⟩, boot_drawn, boot_toks, os⟩ (topStub pr) = some ⟨H1 w.params, ⟨[]⟩, {}, 1105, os⟩ := by
  rw [← abs_end]; exact run_all w os
theorem looks1 (w : World) (os : OsState) : (staticsOk (importedModules pr.main.body) (boot_heap w.params) (H1 w.params) && namesBound pr (H1 w.params) && gensDone ⟨H1 w.params, ⟨[]⟩, {}, 1105, os⟩ && laidKept (boot_heap w.params) (H1 w.params)) = true := by kernel_rfl
theorem looks3 (w : World) (os : OsState) : HK.obs ⟨H1 w.params, ⟨[]⟩, {}, 1105, os⟩ = HK.val w := by kernel_rfl
end Mine
end
section
set_option maxRecDepth 1000000
set_option maxHeartbeats 8000000
set_option linter.all false
namespace Mine
open PySem PySem.W PySem.Calls PyProof.Rows
noncomputable abbrev rr : OpenRow := PySem.Challenge.rw_iu0023_01.row
noncomputable def XT (s : Shared) : Bool := xlAt qv [] s && recOk (RowW.records rr.toRowW) s
theorem looks2 (w : World) (os : OsState) : openSeen qv loose (importedModules pr.main.body) XT true ⟨H1 w.params, ⟨[]⟩, {}, 1105, os⟩ = openGood qv loose := by kernel_rfl
end Mine
end
section
set_option maxRecDepth 1000000
set_option maxHeartbeats 8000000
set_option linter.all false
namespace Mine
open PySem PySem.W PySem.Calls PyProof.Rows
theorem left_ : LeftO pr qv loose XT HK.obs HK.val 12578 := LeftO.of_pieces (H₀ := boot_heap) (H₁ := H1) open_ size_ run_ (by decide +kernel) fun w => funext fun os => by
  rw [looks1, looks2, looks3]
theorem said_ {sm : Nat → Option Summ} (hsm : ∀ X : Fx, XOk X sm → SumsOk X) (hsd : ∀ a, (sm a).isSome = true → a ∈ fnAddrs) {N0 : Nat} (hpure : ∀ ns : List Int, ns.length ≤ 63 → run (wdBase fnIn sm) N0 (.exs lawRest ⟨fnS (topSt 25), 12, loc0 ns, tel0⟩ kLaw) = some true) : PySem.Challenge.rw_iu0023_01.row.wellSaid = true → PySem.Challenge.rw_iu0023_01.row.Holds := by
  intro said
  refine holds_open (q := qv) (loose := loose) (Xt := fun s => xlAt qv [] s && recOk (RowW.records rr.toRowW) s) (XP := XL qv []) (Yf := Hook.obs HK) (Ya := Hook.val HK) (YP := Hook.says HK) (N := 12578) left_ (Hook.of HK) (Hook.keeps HK) (fun s e => xl_of s (Bool.and_eq_true_iff.mp e).1) XL.keeps (by rfl) (by rfl) (by rfl) (fun s e => recFacts_of (Bool.and_eq_true_iff.mp e).2) (by rfl) (by assumption) (by decide +kernel) ⟨rfl, rfl, rfl, rfl, rfl, by decide +kernel⟩ ?hw ?hc
  case hw => w_witness2
  case hc =>
    w_strict (intro w s₀ s₁ mg mb G Y fa o pm cd doc dV kV ho hd hcd hD hmg hg args vals as hpre hlay hrd hwl hlo)
    have KX := kIn_of Y
    refine Ground.open G ?_
    intro T B D TE TW
    have TA := at_of_top T
    clear hmg
    wrow_args hpre hlay hrd hwl hlo
    refine enter_call ?_
    w_top on
    refine codeAny_mono ?_ (fun _ _ g => GoodW.toG g)
    have K0 := below_caller (Top.heap T)
    w_call any ho hd hcd hD T F
    rename_i ns hs0 hlay0 hL1 hr1 hl2 w4 w3 lst vs was hLst ra w1 r0 hInts hr2 hc1 hc2 h1 N0
    refine law_goes (h₀ := s₁.heap) hsm hsd (hpure ns (by omega)) F N0 K0 (by assumption) KX (by exact hg) (by rfl) hLst hInts (by omega) fun s' e1 e2 e3 => ?_
    refine ⟨.inl ⟨.bool true, .bool true, [], rfl, raisesW_false ?_, .bool true, ?_, unshared_nil⟩, e3, e2, e1⟩
    · wrow_none_raised
    · refine postW_of (X := true) ?s ?v rfl; (case s => o_shape); (case v => wtm_val)
end Mine
end
section
open PySem PySem.W PyProof.Rows
set_option maxRecDepth 1000000
set_option maxHeartbeats 8000000
/-- the looks at the law, each on its own -/
theorem Mine.well_ : OpenLaw.wellSaid PySem.Challenge.rw_iu0023_01 = true := by
  unfold OpenLaw.wellSaid OpenRow.wellSaid OpenRow.partSaid looksOpen
  repeat' (with_reducible refine look_both ?_ ?_)
  all_goals decide +kernel
end
open PySem PySem.W PyProof.Rows
set_option maxRecDepth 100000 in
set_option maxHeartbeats 8000000 in
theorem PySem.Challenge.cw_iu0023_01_holds : PySem.Challenge.rw_iu0023_01.Holds := by
  refine holds_law Mine.well_ fun said => ?_
  exact Mine.said_ Mine.lev_L.ok Mine.lev_L.dom (fun ns h => Mine.pure_ok Mine.stemS Mine.telS ns h) said
