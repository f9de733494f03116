import PyProof.Rows.All
import Wide.All
import OpenK.AllK
import Wide.FinOn
import KE.KItem
import Lean
import PySem.Challenge.RW_st0046_02
set_option Elab.async false
set_option linter.all false
section
open PySem
namespace Mine
inductive V where
  | none
  | bool (b : Bool)
  | int (i : Int)
  | str (s : List Nat)
  | tup (l : List V)
  | lst (l : List V)
  | dct (l : List (List Nat × Int))
  | obj (ns : List Str) (vs : List V)
  deriving Inhabited
inductive Bd where
  | val (v : V)
  | own (v : V)
  deriving Inhabited
noncomputable abbrev Rho := List (Str × Bd)
structure Cx where
  k : List (Str × NameKind)
  mu : List Str
  deriving Inhabited
inductive Fl where
  | next | brk | cont
  | ret (v : V)
  deriving Inhabited
noncomputable def lookF : List Str → List V → Str → Option V
  | n :: ns, v :: vs, a => if n = a then some v else lookF ns vs a
  | _, _, _ => Option.none
noncomputable def find (r : Rho) (x : Str) : Option Bd := r.lookup x
noncomputable def upd (r : Rho) (x : Str) (b : Bd) : Rho := (x, b) :: r.filter (fun p => !(p.1 == x))
noncomputable def eqLs (f : V → V → Option Bool) : List V → List V → Option Bool
  | [], [] => some true
  | [], _ :: _ => some false
  | _ :: _, [] => some false
  | x :: xs, y :: ys => (f x y).bind fun a => (eqLs f xs ys).map fun b => a && b
noncomputable def intO : V → Option Int
  | .int i => some i
  | _ => Option.none
noncomputable def strO : V → Option (List Nat)
  | .str l => some l
  | _ => Option.none
noncomputable def lstO : V → Option (List V)
  | .lst l => some l
  | _ => Option.none
noncomputable def tupO : V → Option (List V)
  | .tup l => some l
  | _ => Option.none
noncomputable def boolO : V → Option Bool
  | .bool b => some b
  | _ => Option.none
noncomputable def noneO : V → Option Unit
  | .none => some ()
  | _ => Option.none
noncomputable def oneO {α : Type} : List α → Option α
  | [] => Option.none
  | a :: l => if l.isEmpty then some a else Option.none
noncomputable def nameO : Expr → Option Str
  | .Name x _ => some x
  | _ => Option.none
noncomputable def eqA (x y : V) : Option Bool := match x with
  | .none => (match y with
    | .none => some true
    | .int _ => some false
    | _ => Option.none)
  | .int a => (match y with
    | .none => some false
    | .int b => some (decide (a = b))
    | _ => Option.none)
  | .str a => (strO y).map fun b => decide (a = b)
  | _ => Option.none
noncomputable def eqV : Nat → V → V → Option Bool
  | 0, x, y => eqA x y
  | n + 1, x, y => match x with
    | .tup a => (tupO y).bind (eqLs (eqV n) a)
    | .lst a => (lstO y).bind (eqLs (eqV n) a)
    | _ => eqA x y
noncomputable def intOk (i : Int) : Bool := decide (i.natAbs.log2 < 8000)
noncomputable def lenOk (n : Nat) : Bool := decide (n ≤ 100000)
noncomputable def smallI (i : Int) : Bool := decide (-1000000000 ≤ i) && decide (i ≤ 1000000000)
noncomputable def int2 (f : Int → Int → Option V) (x y : V) : Option V := (intO x).bind fun a => (intO y).bind fun b => f a b
noncomputable def addV (x y : V) : Option V := match x with
  | .int a => (intO y).bind fun b => some (.int (a + b))
  | .str a => (strO y).bind fun b => if lenOk (a.length + b.length) then some (.str (a ++ b)) else Option.none
  | .lst a => (lstO y).bind fun b => if lenOk (a.length + b.length) then some (.lst (a ++ b)) else Option.none
  | _ => Option.none
noncomputable def mulV (x y : V) : Option V := (intO y).bind fun b => match x with
  | .int a => if intOk a && intOk b then some (.int (a * b)) else Option.none
  | .str a => if smallI b && lenOk (a.length * b.toNat) then some (.str (List.replicate b.toNat a).flatten) else Option.none
  | .lst a => if smallI b && lenOk (a.length * b.toNat) then some (.lst (List.replicate b.toNat a).flatten) else Option.none
  | _ => Option.none
noncomputable def binV (op : Operator) (x y : V) : Option V := match op with
  | .Add => addV x y
  | .Sub => int2 (fun a b => some (.int (a - b))) x y
  | .Mult => mulV x y
  | .FloorDiv => int2 (fun a b => if decide (b ≠ 0) && (intOk a && intOk b) then some (.int (a.fdiv b)) else Option.none) x y
  | .Mod => int2 (fun a b => if decide (b ≠ 0) then some (.int (a.fmod b)) else Option.none) x y
  | .Pow => int2 (fun a b => if decide (0 ≤ b) && (intOk a && decide (b ≤ 100)) then some (.int (a ^ b.toNat)) else Option.none) x y
  | _ => Option.none
noncomputable def strsV : List V → Option (List (List Nat))
  | [] => some []
  | .str i :: r => (strsV r).map fun t => i :: t
  | _ => Option.none
noncomputable def ordV (f : Int → Int → Bool) (g : List Nat → List Nat → Option Bool) (x y : V) : Option Bool := match x with
  | .int a => (intO y).map (f a)
  | .str a => (strO y).bind (g a)
  | _ => Option.none
noncomputable def isV (x y : V) : Option Bool := match x with
  | .bool a => (boolO y).map fun b => a == b
  | .none => (noneO y).map fun _ => true
  | .int _ => (noneO y).map fun _ => false
  | .str _ => (noneO y).map fun _ => false
  | _ => Option.none
noncomputable def inV (x y : V) : Option Bool := (strO x).bind fun a => match y with
  | .str b => (oneO a).map fun c => decide (c ∈ b)
  | .tup l => (strsV l).map fun ss => ss.any fun x => decide (x = a)
  | _ => Option.none
noncomputable def ninV (x y : V) : Option Bool := (strO x).bind fun a => (strO y).bind fun b => (oneO a).map fun c => !decide (c ∈ b)
noncomputable def cmpV (op : CmpOp) (x y : V) : Option Bool := match op with
  | .Eq => eqV 6 x y
  | .NotEq => (eqV 6 x y).map (!·)
  | .Lt => ordV (fun a b => decide (a < b)) (fun a b => some (decide (a < b))) x y
  | .LtE => ordV (fun a b => decide (a ≤ b)) (fun a b => some (!decide (b < a))) x y
  | .Gt => ordV (fun a b => decide (b < a)) (fun _ _ => Option.none) x y
  | .GtE => ordV (fun a b => decide (b ≤ a)) (fun _ _ => Option.none) x y
  | .Is => isV x y
  | .IsNot => (isV x y).map (!·)
  | .In => inV x y
  | .NotIn => ninV x y
noncomputable def idxAt (n : Nat) (i : Int) : Option Nat :=
  if !smallI i then Option.none else if 0 ≤ i then (if i < n then some i.toNat else Option.none) else (if 0 ≤ i + n then some (i + n).toNat else Option.none)
noncomputable def subV (x y : V) : Option V := (intO y).bind fun i => match x with
  | .lst l => (idxAt l.length i).bind fun k => l[k]?
  | .tup l => (idxAt l.length i).bind fun k => l[k]?
  | .str l => (idxAt l.length i).bind fun k => (l[k]?).map fun c => .str [c]
  | _ => Option.none
noncomputable def clampI (n : Nat) (i : Int) : Nat := if i < 0 then (i + n).toNat else min i.toNat n
noncomputable def boundV : Option V → Option (Option Int)
  | Option.none => some Option.none
  | some v => (intO v).bind fun i => if smallI i then some (some i) else Option.none
noncomputable def cutL {α : Type} (l : List α) (lo hi : Option Int) : List α :=
  let a := (lo.map (clampI l.length)).getD 0
  let b := (hi.map (clampI l.length)).getD l.length
  (l.take b).drop a
noncomputable def cutS (l : List V) (a b : Option Int) (s : Int) : List V := (sliceRange (((a.map (clampI l.length)).getD 0 : Nat) : Int) (((b.map (clampI l.length)).getD l.length : Nat) : Int) s).filterMap (l[·]?)
noncomputable def sliceB (v : V) (a b : Option Int) (st : Option V) : Option V := match v with
  | .str l => if st.isNone && lenOk l.length then some (.str (cutL l a b)) else Option.none
  | .lst l => if lenOk l.length then (match st with
    | Option.none => some (.lst (cutL l a b))
    | some w => (intO w).bind fun s => if decide (1 ≤ s) && decide (s ≤ 100) then some (.lst (cutS l a b s)) else Option.none) else Option.none
  | _ => Option.none
noncomputable def sliceV (v : V) (lo hi st : Option V) : Option V := (boundV lo).bind fun a => (boundV hi).bind fun b => sliceB v a b st
noncomputable def rangeL (a b : Int) : List V := (List.range (b - a).toNat).map fun (i : Nat) => .int (a + (i : Int))
noncomputable def rangeDown (a b : Int) : List V := (List.range (a - b).toNat).map fun (i : Nat) => .int (a - (i : Int))
noncomputable def rng1 (b : Int) : Option (List V) := if smallI b && lenOk b.toNat then some (rangeL 0 b) else Option.none
noncomputable def rng2 (a b : Int) : Option (List V) := if smallI a && (smallI b && lenOk (b - a).toNat) then some (rangeL a b) else Option.none
noncomputable def rng3 (a b k : Int) : Option (List V) := if decide (k = -1) && (smallI a && (smallI b && lenOk (a - b).toNat)) then some (rangeDown a b) else Option.none
noncomputable def rangeV : List V → Option (List V)
  | [] => Option.none
  | x :: l => (intO x).bind fun a => match l with
    | [] => rng1 a
    | y :: l => (intO y).bind fun b => match l with
      | [] => rng2 a b
      | z :: l => (intO z).bind fun k => if l.isEmpty then rng3 a b k else Option.none
noncomputable def sumV : List V → Option Int
  | [] => some 0
  | .int i :: r => (sumV r).map fun t => i + t
  | _ => Option.none
noncomputable def intsV : List V → Option (List Int)
  | [] => some []
  | .int i :: r => (intsV r).map fun t => i :: t
  | _ => Option.none
noncomputable def decText (i : Int) : List Nat := (toString i).toList.map Char.toNat
noncomputable def nm (s : String) : Str := Str.ofString s
noncomputable def lenV (x : V) : Option V := match x with
  | .str l => if lenOk l.length then some (.int l.length) else Option.none
  | .lst l => if lenOk l.length then some (.int l.length) else Option.none
  | .tup l => if lenOk l.length then some (.int l.length) else Option.none
  | _ => Option.none
noncomputable def chrV (x : V) : Option V := (intO x).bind fun i => if 0 ≤ i && i < 55296 || 57343 < i && i < 1114112 then some (.str [i.toNat]) else Option.none
noncomputable def ordC (x : V) : Option V := (strO x).bind fun l => (oneO l).map fun (c : Nat) => V.int (c : Int)
noncomputable def sumL (x : V) : Option V := (lstO x).bind fun l => (sumV l).map .int
noncomputable def maxL (x : V) : Option V := (lstO x).bind fun l => (intsV l).bind fun xs => xs.max?.map .int
noncomputable def minL (x : V) : Option V := (lstO x).bind fun l => (intsV l).bind fun xs => xs.min?.map .int
noncomputable def max2 (x y : V) : Option V := (intO x).bind fun a => (intO y).map fun b => .int (if b > a then b else a)
noncomputable def maxV : List V → Option V
  | [] => Option.none
  | x :: l => if l.isEmpty then maxL x else (oneO l).bind (max2 x)
noncomputable def tupL (x : V) : Option V := (lstO x).bind fun l => if lenOk l.length then some (.tup l) else Option.none
noncomputable def biV (f : Str) (args : List V) : Option V :=
  if f == nm "len" then (oneO args).bind lenV
  else if f == nm "chr" then (oneO args).bind chrV
  else if f == nm "ord" then (oneO args).bind ordC
  else if f == nm "int" then (oneO args).bind fun x => (boolO x).map fun b => .int (if b then 1 else 0)
  else if f == nm "sum" then (oneO args).bind sumL
  else if f == nm "max" then maxV args
  else if f == nm "min" then (oneO args).bind minL
  else if f == nm "tuple" then (oneO args).bind tupL
  else Option.none
noncomputable def biNames : List (Str × Value) := [(nm "len", .builtin "len"), (nm "chr", .builtin "chr"), (nm "ord", .builtin "ord"), (nm "int", .type "int"), (nm "sum", .builtin "sum"), (nm "max", .builtin "max"), (nm "min", .builtin "min"), (nm "tuple", .type "tuple"),
  (nm "range", .type "range"), (nm "enumerate", .type "enumerate"), (nm "list", .type "list")]
noncomputable def enumL : Nat → List V → List V
  | _, [] => []
  | k, v :: r => .tup [.int k, v] :: enumL (k + 1) r
noncomputable def countC (c : Nat) (l : List Nat) : Nat := (l.filter (fun x => decide (x = c))).length
noncomputable def joinL (sep : List Nat) : List (List Nat) → List Nat
  | [] => []
  | [x] => x
  | x :: r => x ++ (sep ++ joinL sep r)
noncomputable def lowC (c : Nat) : List Nat := (Txt.lower ⟨#[c]⟩).cps.toList
noncomputable def joinV (s : List Nat) (x : V) : Option V := (lstO x).bind fun l => (strsV l).bind fun xs => if lenOk ((xs.map (·.length)).sum + xs.length * s.length) then some (.str (joinL s xs)) else Option.none
noncomputable def countV (s : List Nat) (x : V) : Option V := (strO x).bind fun l => (oneO l).bind fun c => if lenOk s.length then some (.int (countC c s)) else Option.none
noncomputable def methS (s : List Nat) (m : Str) (args : List V) : Option V :=
  if m == nm "join" then (oneO args).bind (joinV s)
  else if m == nm "count" then (oneO args).bind (countV s)
  else if m == nm "lower" then (if args.isEmpty then (oneO s).map fun c => .str (lowC c) else Option.none)
  else Option.none
structure Fn where
  params : Arguments
  body : List Stmt
  scope : Scope
  deriving Inhabited
noncomputable def Fn.names (f : Fn) : List Str := f.params.args.map (·.arg)
noncomputable def escItems : Nat → Bool → List Nat → List V
  | p, true, [] => [.tup [.int ((p : Int) - 1), .str [92]]]
  | _, false, [] => []
  | p, true, c :: r => .tup [.int p, .str [92, c]] :: escItems (p + 1) false r
  | p, false, c :: r => if c = 92 then escItems (p + 1) true r else .tup [.int p, .str [c]] :: escItems (p + 1) false r
structure Prog where
  fns : List (Str × Fn)
  meths : List (Str × Fn)
  b1 : List Nat
  b3 : List (Int × List Nat)
  deriving Inhabited
noncomputable def fldNames : List Str := [nm "raw", nm "n", nm "nt", nm "norm", nm "is_simple"]
noncomputable def nameL (e : Expr) : List Str := (nameO e).toList
noncomputable def mutA : List Expr → List Str
  | [] => []
  | t :: l => match l with
    | [] => (match t with
      | .Subscript o _ _ => nameL o
      | .Attribute o _ _ => nameL o
      | _ => [])
    | _ :: _ => []
noncomputable def mutF : Expr → List Str
  | .Attribute o m _ => if m == nm "append" then nameL o else []
  | _ => []
noncomputable def mutE : Expr → List Str
  | .Call f _ _ _ => mutF f
  | _ => []
mutual
noncomputable def mutS : Stmt → List Str
  | .Assign ts _ _ => mutA ts
  | .Expr e _ => mutE e
  | .If _ b o _ => mutL b ++ mutL o
  | .For _ _ b o _ => mutL b ++ mutL o
  | .While _ b o _ => mutL b ++ mutL o
  | _ => []
noncomputable def mutL : List Stmt → List Str
  | [] => []
  | s :: r => mutS s ++ mutL r
end
noncomputable def tupT (x : V) (t : Bool) : Bool := match x with
  | .tup _ => t
  | _ => false
structure Evs where
  E : Cx → Rho → Expr → Option (Bool × V)
  X : Cx → Rho → List Stmt → Option (Fl × Rho)
  F : Str → List V → Option V
  M : Str → V → List V → Option V
noncomputable def isGl (c : Cx) (f : Str) : Bool := c.k.lookup f == some .globalImplicit
section
variable (G : Prog) (r : Evs)
noncomputable def isStar : Expr → Bool
  | .Starred _ _ => true
  | _ => false
noncomputable def evL (c : Cx) (ρ : Rho) : List Expr → Option (Bool × List V)
  | [] => some (false, [])
  | e :: es => if isStar e then Option.none else (r.E c ρ e).bind fun p => (evL c ρ es).map fun q => (p.1 || q.1, p.2 :: q.2)
noncomputable def evOpt (c : Cx) (ρ : Rho) : Option Expr → Option (Option V)
  | Option.none => some Option.none
  | some e => (r.E c ρ e).map fun p => some p.2
noncomputable def tstE (c : Cx) (ρ : Rho) (t : Expr) : Option Bool := (r.E c ρ t).bind fun p => boolO p.2
noncomputable def pureE (c : Cx) (ρ : Rho) (e : Expr) : Option V := (r.E c ρ e).bind fun p => if p.1 then Option.none else some p.2
noncomputable def itV : V → Option (List V)
  | .lst l => some l
  | .str s => some (s.map fun ch => .str [ch])
  | _ => Option.none
noncomputable def isSet : Expr → Bool
  | .Set _ _ _ => true
  | _ => false
noncomputable def isTuple : Expr → Bool
  | .Tuple _ _ _ => true
  | _ => false
noncomputable def callN : Expr → Option (Str × List Expr)
  | .Call f args kws _ => if kws.isEmpty then (nameO f).map fun x => (x, args) else Option.none
  | _ => Option.none
noncomputable def itC (c : Cx) (ρ : Rho) (target e : Expr) (f : Str) (args : List Expr) : Option (List V) :=
  if f == nm "range" then (evL r c ρ args).bind fun p => rangeV p.2
  else if f == nm "enumerate" then (oneO args).bind fun a => if isTuple target && !isStar a then (pureE r c ρ a).bind fun v => (lstO v).map (enumL 0) else Option.none
  else if f == nm "_iter_escaped_chars" then (oneO args).bind fun a => if isStar a then Option.none else (r.E c ρ a).bind fun p => (strO p.2).bind fun s => if lenOk s.length then some (escItems 0 false s) else Option.none
  else (pureE r c ρ e).bind itV
noncomputable def itE (c : Cx) (ρ : Rho) (target e : Expr) : Option (List V) :=
  if isSet e then Option.none else match callN e with
  | Option.none => (pureE r c ρ e).bind itV
  | some p => if isGl c p.1 && (find ρ p.1).isNone then itC r c ρ target e p.1 p.2 else Option.none
noncomputable def okK (c : Cx) (x : Str) : Bool := c.k.lookup x == some .local || c.k.lookup x == some .cell
noncomputable def okN (c : Cx) (x : Str) : Bool := !c.mu.contains x && okK c x
noncomputable def goT (c : Cx) (ρ : Rho) : List Expr → List V → Option Rho
  | [], vs => if vs.isEmpty then some ρ else Option.none
  | t :: ts, vs => match vs with
    | [] => Option.none
    | v :: vs => (nameO t).bind fun x => if okN c x then goT c (upd ρ x (.val v)) ts vs else Option.none
noncomputable def bindT (c : Cx) (ρ : Rho) (t : Expr) (v : V) : Option Rho := match t with
  | .Name x _ => if okN c x then some (upd ρ x (.val v)) else Option.none
  | .Tuple ts _ _ => (tupO v).bind (goT c ρ ts)
  | _ => Option.none
noncomputable def targetNames : Expr → List Str
  | .Name x _ => [x]
  | .Tuple ts _ _ => ts.filterMap nameO
  | _ => []
noncomputable def ifsE (c : Cx) (ρ : Rho) : List Expr → Option Bool
  | [] => some true
  | e :: es => (tstE r c ρ e).bind fun b => if b then ifsE c ρ es else some false
noncomputable def compCx (sc : Scope) : Cx := ⟨sc.names.map fun (n, k) => (n, if k == .free then .cell else k), []⟩
noncomputable def compRho (sc : Scope) (ρ : Rho) : Rho := sc.names.filterMap fun p => if p.2 == .free then (match find ρ p.1 with | some (.val v) => some (p.1, Bd.val v) | _ => Option.none) else Option.none
noncomputable def compOk (c : Cx) (sc : Scope) (target : Expr) : Bool :=
  decide ((sc.names.map (·.1)).Nodup) && (sc.names.lookup ("__debug__" : Str)).isNone && sc.kind == .function && sc.names.all (fun p => p.2 != .cell && (p.2 != .free || c.k.lookup p.1 == some .cell))
  && (targetNames target).all (fun x => sc.names.lookup x == some .local)
noncomputable def compL (c : Cx) (ρ : Rho) (elt target : Expr) (ifs : List Expr) : List V → Option (List V)
  | [] => some []
  | v :: vs => (bindT c ρ target v).bind fun ρ' => (ifsE r c ρ' ifs).bind fun ok =>
    if ok then (pureE r c ρ' elt).bind fun y => (compL c ρ elt target ifs vs).map fun ys => y :: ys
    else compL c ρ elt target ifs vs
noncomputable def chainE (c : Cx) (ρ : Rho) (left : V) : List CmpOp → List Expr → Option Bool
  | [], _ => Option.none
  | op :: ops, es => match es with
    | [] => Option.none
    | e :: es => (r.E c ρ e).bind fun p => (cmpV op left p.2).bind fun b => if ops.isEmpty then (if es.isEmpty then some b else Option.none) else if b then chainE c ρ p.2 ops es else some false
noncomputable def isAnd : BoolOp → Bool
  | .And => true
  | .Or => false
noncomputable def boolE (c : Cx) (ρ : Rho) (op : BoolOp) : List Expr → Option Bool
  | [] => Option.none
  | e :: es => (tstE r c ρ e).bind fun b => if es.isEmpty then some b else if isAnd op == b then boolE c ρ op es else some b
noncomputable def constV : Const → Option V
  | .none => some .none
  | .bool b => some (.bool b)
  | .int i => some (.int i)
  | .str s => some (.str s.cps.toList)
  | _ => Option.none
noncomputable def bareCall : Expr → Bool
  | .Call f args kws _ => (nameO f).isSome && (args.isEmpty && kws.isEmpty)
  | _ => false
noncomputable def isIn : CmpOp → Bool
  | .In => true
  | _ => false
noncomputable def setAsk (c : Cx) (ρ : Rho) (ops : List CmpOp) (es : List Expr) : Bool := match ops, es with
  | [op], [e] => isIn op && (match nameO e with
    | some x => (find ρ x).isNone && isGl c x && x == nm "b1_set"
    | Option.none => false)
  | _, _ => false
noncomputable def dictAsk (c : Cx) (ρ : Rho) (o : Expr) (m : Str) : Bool := match nameO o with
  | some x => (find ρ x).isNone && isGl c x && x == nm "b3_exceptions" && m == nm "get"
  | Option.none => false
noncomputable def isObj : V → Bool
  | .obj _ _ => true
  | _ => false
noncomputable def bdE : Bd → Option (Bool × V)
  | .val v => some (false, v)
  | .own v => if isObj v then Option.none else some (true, v)
noncomputable def unE (c : Cx) (ρ : Rho) (op : UnaryOp) (e : Expr) : Option V := match op with
  | .Not => (tstE r c ρ e).map fun b => .bool (!b)
  | .USub => (r.E c ρ e).bind fun p => (intO p.2).map fun i => .int (-i)
  | _ => Option.none
noncomputable def binE (c : Cx) (ρ : Rho) (a : Expr) (op : Operator) (b : Expr) : Option V := (r.E c ρ a).bind fun p => (r.E c ρ b).bind fun q => binV op p.2 q.2
noncomputable def cmpE (c : Cx) (ρ : Rho) (l : Expr) (ops : List CmpOp) (es : List Expr) : Option Bool :=
  if lastMarks ops es || ops.length != es.length then Option.none
  else (r.E c ρ l).bind fun p => if setAsk c ρ ops es then (intO p.2).map fun i => G.b1.any fun k => decide ((k : Int) = i) else chainE r c ρ p.2 ops es
noncomputable def lisE (c : Cx) (ρ : Rho) (es : List Expr) : Option (List V) := (evL r c ρ es).bind fun p => if p.1 || !lenOk p.2.length then Option.none else some p.2
noncomputable def tupE (c : Cx) (ρ : Rho) (es : List Expr) : Option (Bool × V) := (evL r c ρ es).bind fun p => if lenOk p.2.length then some (p.1, .tup p.2) else Option.none
noncomputable def sliceO : Expr → Option (Option Expr × Option Expr × Option Expr)
  | .Slice lo hi st _ => some (lo, hi, st)
  | _ => Option.none
noncomputable def cutE (c : Cx) (ρ : Rho) (v : Expr) (lo hi st : Option Expr) : Option V := (r.E c ρ v).bind fun x => (evOpt r c ρ lo).bind fun a => (evOpt r c ρ hi).bind fun b => (evOpt r c ρ st).bind fun s => sliceV x.2 a b s
noncomputable def idxE (c : Cx) (ρ : Rho) (v i : Expr) : Option (Bool × V) := (r.E c ρ v).bind fun p => (r.E c ρ i).bind fun q => (subV p.2 q.2).map fun z => (tupT p.2 p.1, z)
noncomputable def comE (c : Cx) (ρ : Rho) (elt target iter : Expr) (ifs : List Expr) (sc : Scope) : Option (List V) := if !compOk c sc target then Option.none else (itE r c ρ target iter).bind fun vs => if lenOk vs.length then compL r (compCx sc) (compRho sc ρ) elt target ifs vs else Option.none
noncomputable def lrE (c : Cx) (ρ : Rho) (e : Expr) : Option (List V) := (callN e).bind fun p => if (find ρ p.1).isNone && p.1 == nm "range" && isGl c p.1 then (evL r c ρ p.2).bind fun q => rangeV q.2 else Option.none
noncomputable def callE (c : Cx) (ρ : Rho) (f : Str) (args : List Expr) : Option V := (evL r c ρ args).bind fun p => match biV f p.2 with
  | some v => some v
  | Option.none => if p.1 then Option.none else r.F f p.2
noncomputable def fnE (c : Cx) (ρ : Rho) (f : Str) (args : List Expr) : Option V :=
  if (find ρ f).isSome || !isGl c f then Option.none
  else if f == nm "list" then (oneO args).bind fun a => (lrE r c ρ a).map .lst
  else callE r c ρ f args
noncomputable def b3V (i : Int) : V := match G.b3.lookup i with
  | some t => .str t
  | Option.none => .none
noncomputable def dicE (c : Cx) (ρ : Rho) (args : List Expr) : Option V := (oneO args).bind fun y => if isStar y then Option.none else (r.E c ρ y).bind fun p => (intO p.2).map (b3V G)
noncomputable def mthE (c : Cx) (ρ : Rho) (o : Expr) (m : Str) (args : List Expr) : Option V := (r.E c ρ o).bind fun p => (evL r c ρ args).bind fun q => match p.2 with
  | .obj ns fs => if p.1 || (q.1 || ns.contains m) then Option.none else r.M m (.obj ns fs) q.2
  | .str l => methS l m q.2
  | _ => Option.none
noncomputable def metE (c : Cx) (ρ : Rho) (o : Expr) (m : Str) (apos : Pos) (args : List Expr) (pos : Pos) : Option V :=
  if apos.endLine != pos.line || (decide (30 ≤ args.length) || bareCall o) then Option.none
  else if dictAsk c ρ o m then dicE G r c ρ args else mthE r c ρ o m args
noncomputable def calE (c : Cx) (ρ : Rho) (f : Expr) (args : List Expr) (pos : Pos) : Option V := match f with
  | .Name f _ => fnE r c ρ f args
  | .Attribute o m apos => metE G r c ρ o m apos args pos
  | _ => Option.none
noncomputable def objO : V → Option (List Str × List V)
  | .obj ns fs => some (ns, fs)
  | _ => Option.none
noncomputable def bdV : Bd → V
  | .val v => v
  | .own v => v
noncomputable def attE (c : Cx) (ρ : Rho) (x a : Str) : Option V := match find ρ x with
  | some b => (objO (bdV b)).bind fun p => if fldNames.contains a then lookF p.1 p.2 a else Option.none
  | Option.none => if isGl c x && x == nm "Whitespace" then (if a == nm "S" then some (.str [32]) else if a == nm "T" then some (.str [9]) else Option.none) else Option.none
noncomputable def genO : List Comprehension → Option (Expr × Expr × List Expr)
  | [] => Option.none
  | g :: l => if l.isEmpty && g.is_async == 0 then some (g.target, g.iter, g.ifs) else Option.none
noncomputable def f0 (v : V) : Bool × V := (false, v)
noncomputable def stepE (c : Cx) (ρ : Rho) : Expr → Option (Bool × V)
  | .Constant k _ _ => (constV k).map f0
  | .Name x _ => (find ρ x).bind bdE
  | .BoolOp op es _ => (boolE r c ρ op es).map fun b => f0 (.bool b)
  | .UnaryOp op e _ => (unE r c ρ op e).map f0
  | .BinOp a op b _ => (binE r c ρ a op b).map f0
  | .IfExp t a b _ => (tstE r c ρ t).bind fun x => if x then r.E c ρ a else r.E c ρ b
  | .Compare l ops es _ => (cmpE G r c ρ l ops es).map fun b => f0 (.bool b)
  | .List es _ => (lisE r c ρ es).map fun l => f0 (.lst l)
  | .Tuple es _ _ => tupE r c ρ es
  | .Subscript v i _ => (match sliceO i with
    | some p => (cutE r c ρ v p.1 p.2.1 p.2.2).map f0
    | Option.none => idxE r c ρ v i)
  | .ListComp elt gs sc _ => (genO gs).bind fun g => (comE r c ρ elt g.1 g.2.1 g.2.2 sc).map fun l => f0 (.lst l)
  | .Call f args kws pos => if kws.isEmpty then (calE G r c ρ f args pos).map f0 else Option.none
  | .Attribute o a _ => (nameO o).bind fun x => (attE c ρ x a).map f0
  | _ => Option.none
noncomputable def isAdd : Operator → Bool
  | .Add => true
  | _ => false
noncomputable def freshE (c : Cx) (ρ : Rho) : Expr → Option (List V)
  | .List es _ => lisE r c ρ es
  | .BinOp a op b _ => if isAdd op then (r.E c ρ a).bind fun p => (r.E c ρ b).bind fun q => (lstO p.2).bind fun la => (lstO q.2).bind fun lb => if lenOk (la.length + lb.length) then some (la ++ lb) else Option.none else Option.none
  | _ => Option.none
noncomputable def asgB (c : Cx) (ρ : Rho) (x : Str) (e : Expr) : Option Bd :=
  if !okK c x then Option.none
  else if c.mu.contains x then (freshE r c ρ e).map fun l => Bd.own (.lst l)
  else (pureE r c ρ e).map Bd.val
noncomputable def asgBs (c : Cx) (ρ : Rho) : List Expr → List Expr → Option (List (Str × Bd))
  | [], es => if es.isEmpty then some [] else Option.none
  | t :: ts, es => match es with
    | [] => Option.none
    | e :: es => if isStar e then Option.none else (nameO t).bind fun x => (asgB r c ρ x e).bind fun b => (asgBs c ρ ts es).map fun l => (x, b) :: l
noncomputable def updL (ρ : Rho) (l : List (Str × Bd)) : Rho := l.foldl (fun ρ p => upd ρ p.1 p.2) ρ
noncomputable def tupOk (ts es : List Expr) : Bool := (decide ((targetNames (.Tuple ts 0 default)).Nodup) && lenOk es.length) && (es.all (foldedForSure 8) || !es.all (constantsAlone 8))
noncomputable def chainT (c : Cx) (v : V) : Rho → List Expr → Option Rho
  | ρ, [] => some ρ
  | ρ, t :: ts => (nameO t).bind fun x => if okN c x then chainT c v (upd ρ x (.val v)) ts else Option.none
noncomputable def setL : List V → Nat → V → List V
  | [], _, _ => []
  | _ :: r, 0, v => v :: r
  | x :: r, k + 1, v => x :: setL r k v
noncomputable def whileX (c : Cx) (test : Expr) (body : List Stmt) : Nat → Rho → Option (Fl × Rho)
  | 0, _ => Option.none
  | n + 1, ρ => (tstE r c ρ test).bind fun b => if b then (r.X c ρ body).bind fun q => match q.1 with
      | .next => whileX c test body n q.2
      | .cont => whileX c test body n q.2
      | .brk => some (.next, q.2)
      | .ret v => some (.ret v, q.2)
    else some (.next, ρ)
noncomputable def forX (c : Cx) (target : Expr) (body : List Stmt) : List V → Rho → Option (Fl × Rho)
  | [], ρ => some (.next, ρ)
  | v :: vs, ρ => (bindT c ρ target v).bind fun ρ₁ => (r.X c ρ₁ body).bind fun q => match q.1 with
      | .next => forX c target body vs q.2
      | .cont => forX c target body vs q.2
      | .brk => some (.next, q.2)
      | .ret v => some (.ret v, q.2)
noncomputable def oddComp : Expr → Bool
  | .SetComp _ _ _ _ => true
  | .DictComp _ _ _ _ _ => true
  | _ => false
noncomputable def anyComp : Expr → Bool
  | .ListComp _ _ _ _ => true
  | .SetComp _ _ _ _ => true
  | .DictComp _ _ _ _ _ => true
  | _ => false
noncomputable def nx (ρ : Rho) : Fl × Rho := (.next, ρ)
noncomputable def listB : Bd → Option (List V)
  | .own v => lstO v
  | .val _ => Option.none
noncomputable def objB : Bd → Option (List Str × List V)
  | .own v => objO v
  | .val _ => Option.none
noncomputable def putV (v : V) (l : List V) (i : Int) : Option (List V) := if decide (0 ≤ i) && (decide (i < l.length) && lenOk l.length) then some (setL l i.toNat v) else Option.none
noncomputable def subX (c : Cx) (ρ : Rho) (x : Str) (i e : Expr) : Option Rho := (pureE r c ρ e).bind fun v => (r.E c ρ i).bind fun q => (find ρ x).bind fun b => (listB b).bind fun l => (intO q.2).bind fun i => (putV v l i).map fun l => upd ρ x (.own (.lst l))
noncomputable def attX (c : Cx) (ρ : Rho) (x a : Str) (e : Expr) : Option Rho := (pureE r c ρ e).bind fun v => (find ρ x).bind fun b => (objB b).bind fun o => if o.1.contains a || (!fldNames.contains a || decide (10 < o.1.length)) then Option.none else some (upd ρ x (.own (.obj (o.1 ++ [a]) (o.2 ++ [v]))))
noncomputable def tupX (c : Cx) (ρ : Rho) (ts : List Expr) (t e : Expr) : Option Rho := match e with
  | .Tuple es _ _ => if tupOk ts es then (asgBs r c ρ ts es).map (updL ρ) else Option.none
  | e => (pureE r c ρ e).bind (bindT c ρ t)
noncomputable def asgX (c : Cx) (ρ : Rho) (t e : Expr) : Option Rho := match t with
  | .Name x _ => if oddComp e then Option.none else (asgB r c ρ x e).map fun b => upd ρ x b
  | .Tuple ts k p => tupX r c ρ ts (.Tuple ts k p) e
  | .Subscript o i _ => (nameO o).bind fun x => subX r c ρ x i e
  | .Attribute o a _ => (nameO o).bind fun x => attX r c ρ x a e
  | _ => Option.none
noncomputable def asgsX (c : Cx) (ρ : Rho) (ts : List Expr) (e : Expr) : Option Rho := match ts with
  | [] => Option.none
  | t :: l => if l.isEmpty then asgX r c ρ t e else (pureE r c ρ e).bind fun v => chainT c v ρ (t :: l)
noncomputable def appX (c : Cx) (ρ : Rho) (x m : Str) (apos pos : Pos) (e : Expr) : Option Rho :=
  if m == nm "append" && (apos.endLine == pos.line && !isStar e) then (pureE r c ρ e).bind fun v => (find ρ x).bind fun b => (listB b).bind fun l => if lenOk l.length then some (upd ρ x (.own (.lst (l ++ [v])))) else Option.none
  else Option.none
noncomputable def attO : Expr → Option (Expr × Str × Pos)
  | .Attribute o m p => some (o, m, p)
  | _ => Option.none
noncomputable def exX (c : Cx) (ρ : Rho) : Expr → Option Rho
  | .Call f args kws pos => if kws.isEmpty then (attO f).bind fun p => (nameO p.1).bind fun x => (oneO args).bind fun e => appX r c ρ x p.2.1 p.2.2 pos e else Option.none
  | _ => Option.none
noncomputable def execS (c : Cx) (ρ : Rho) : Stmt → Option (Fl × Rho)
  | .Pass _ => some (.next, ρ)
  | .Break _ => some (.brk, ρ)
  | .Return e _ => e.bind fun e => (r.E c ρ e).map fun p => (.ret p.2, ρ)
  | .If t b o _ => (tstE r c ρ t).bind fun x => if x then r.X c ρ b else r.X c ρ o
  | .While t b o _ => if o.isEmpty then whileX r c t b 4000 ρ else Option.none
  | .For target iter b o _ => if o.isEmpty then (itE r c ρ target iter).bind fun vs => forX r c target b vs ρ else Option.none
  | .Assign ts e _ => (asgsX r c ρ ts e).map nx
  | .Expr e _ => (exX r c ρ e).map nx
  | _ => Option.none
noncomputable def execL (c : Cx) : Rho → List Stmt → Option (Fl × Rho)
  | ρ, [] => some (.next, ρ)
  | ρ, st :: rest => (execS r c ρ st).bind fun q => match q.1 with
    | .next => execL c q.2 rest
    | .brk => some (.brk, q.2)
    | .cont => some (.cont, q.2)
    | .ret v => some (.ret v, q.2)
noncomputable def fnCx (f : Fn) : Cx := ⟨f.scope.names, mutL f.body⟩
noncomputable def isNext : Fl → Bool
  | .next => true
  | _ => false
noncomputable def retO : Fl → Option V
  | .ret v => some v
  | _ => Option.none
noncomputable def makV (a : V) (g : Fn) : Option V :=
  if g.names == [nm "self", nm "ws"] then (r.X (fnCx g) [(nm "self", .own (.obj [] [])), (nm "ws", .val a)] g.body).bind fun q => if isNext q.1 then (find q.2 (nm "self")).bind fun b => (objB b).map fun p => .obj p.1 p.2 else Option.none
  else Option.none
noncomputable def runF (g : Fn) (args : List V) : Option V :=
  if g.names.length == args.length then (r.X (fnCx g) (g.names.zip (args.map Bd.val)) g.body).bind fun q => retO q.1
  else Option.none
noncomputable def callF (f : Str) (args : List V) : Option V :=
  if f == nm "Whitespace" then (G.meths.lookup (nm "__init__")).bind fun g => (oneO args).bind fun a => makV r a g
  else (G.fns.lookup f).bind fun g => runF r g args
noncomputable def callM (m : Str) (self : V) (args : List V) : Option V := (G.meths.lookup m).bind fun g => runF r g (self :: args)
noncomputable def stepR : Evs := ⟨stepE G r, execL r, callF G r, callM G r⟩
end
noncomputable def lvl (G : Prog) : Nat → Evs
  | 0 => ⟨fun _ _ _ => Option.none, fun _ _ _ => Option.none, fun _ _ => Option.none, fun _ _ _ => Option.none⟩
  | n + 1 => stepR G (lvl G n)
noncomputable def fnsOf : List Stmt → List (Str × Fn)
  | [] => []
  | .FunctionDef name args body _ _ _ scope _ _ _ :: r => (name, ⟨args, body, scope⟩) :: fnsOf r
  | _ :: r => fnsOf r
noncomputable def methsOf : List Stmt → List (Str × Fn)
  | [] => []
  | .ClassDef _ _ _ body _ _ _ _ _ _ _ :: _ => fnsOf body
  | _ :: r => methsOf r
noncomputable def b3Of : List Stmt → List (Int × List Nat)
  | [] => []
  | .Assign [.Name _ _] (.Dict ks vs _) _ :: _ => (ks.zip vs).filterMap fun p => match p with
    | (some (.Constant (.int i) _ _), .Constant (.str s) _ _) => some (i, s.cps.toList)
    | _ => Option.none
  | _ :: r => b3Of r
noncomputable def b1L : List Nat := [173, 847, 6150, 6155, 6156, 6157, 8203, 8204, 8205, 8288, 65279] ++ (List.range 16).map (65024 + ·)
noncomputable def namesOk (f : Fn) : Bool :=
  decide ((f.scope.names.map (·.1)).Nodup) && decide (f.names.Nodup) && (f.scope.names.lookup ("__debug__" : Str)).isNone
  && f.names.all (fun x => f.scope.names.lookup x == some .local || f.scope.names.lookup x == some .cell)
  && !f.scope.isCoroutine && !f.scope.isGenerator && f.scope.kind == .function
noncomputable def progOf' (p : Program) : Prog := ⟨(fnsOf p.main.body).filter fun x => namesOk x.2, methsOf p.main.body, b1L, b3Of p.main.body⟩
end Mine
end
section
open PySem PySem.Calls PyProof.Rows PySem.W
set_option maxRecDepth 10000
namespace Mine
section
variable {α β γ : Type} {P : Prop}
theorem no {b : β} (h : (none : Option β) = some b) : P := nomatch h
theorem bindE {o : Option α} {f : α → Option β} {b : β} (h : o.bind f = some b) (k : ∀ a, o = some a → f a = some b → P) : P := match o, h, k with
  | some a, h, k => k a rfl h
theorem bindP {o : Option (α × γ)} {f : α × γ → Option β} {b : β} (h : o.bind f = some b) (k : ∀ a c, o = some (a, c) → f (a, c) = some b → P) : P := match o, h, k with
  | some (a, c), h, k => k a c rfl h
@[elab_as_elim] theorem mapE {o : Option α} {f : α → β} {b : β} {Q : β → Prop} (h : o.map f = some b) (k : ∀ a, o = some a → Q (f a)) : Q b := match o, b, h, k with
  | some a, _, rfl, k => k a rfl
theorem mapI {o : Option α} {f : α → β} {b : β} (h : o.map f = some b) (k : ∀ a, o = some a → b = f a → P) : P := match o, h, k with
  | some a, h, k => k a rfl (Option.some.inj h).symm
@[elab_as_elim] theorem mapP {o : Option α} {f : α → β × γ} {b : β} {d : γ} {Q : β → γ → Prop} (h : o.map f = some (b, d)) (k : ∀ a, o = some a → Q (f a).1 (f a).2) : Q b d := mapE (Q := fun p => Q p.1 p.2) h k
@[elab_as_elim] theorem someE {a b : α} {Q : α → Prop} (h : some a = some b) (k : Q a) : Q b := Option.some.inj h ▸ k
@[elab_as_elim] theorem someP {a c : α} {b d : β} {Q : α → β → Prop} (h : some (a, b) = some (c, d)) (k : Q a b) : Q c d := someE (Q := fun p => Q p.1 p.2) h k
theorem iteN {b : Bool} {x : Option β} {v : β} (h : (if b = true then none else x) = some v) (k : b = false → x = some v → P) : P := match b, h, k with
  | false, h, k => k rfl h
theorem iteY {b : Bool} {x : Option β} {v : β} (h : (if b = true then x else none) = some v) (k : b = true → x = some v → P) : P := match b, h, k with
  | true, h, k => k rfl h
theorem iteB {b : Bool} {x y : Option β} {v : β} (h : (if b = true then x else y) = some v) (k : b = true → x = some v → P) (l : b = false → y = some v → P) : P := match b, h, k, l with
  | true, h, k, _ => k rfl h
  | false, h, _, l => l rfl h
theorem andE {a b : Bool} (h : (a && b) = true) (k : a = true → b = true → P) : P := match a, b, h, k with
  | true, true, _, k => k rfl rfl
theorem orN {a b : Bool} (h : (a || b) = false) (k : a = false → b = false → P) : P := match a, b, h, k with
  | false, false, _, k => k rfl rfl
theorem notT {b : Bool} (h : (!b) = true) : b = false := match b, h with
  | false, _ => rfl
theorem notN {b : Bool} (h : (!b) = false) : b = true := match b, h with
  | true, _ => rfl
theorem decT {p : Prop} [Decidable p] (h : decide p = true) : p := of_decide_eq_true h
@[elab_as_elim] theorem intE {v : V} {i : Int} {Q : V → Prop} (h : intO v = some i) (k : Q (.int i)) : Q v := by
  cases v with
  | int j => cases h; exact k
  | _ => exact no h
@[elab_as_elim] theorem strE {v : V} {i : List Nat} {Q : V → Prop} (h : strO v = some i) (k : Q (.str i)) : Q v := by
  cases v with
  | str j => cases h; exact k
  | _ => exact no h
@[elab_as_elim] theorem lstE {v : V} {i : List V} {Q : V → Prop} (h : lstO v = some i) (k : Q (.lst i)) : Q v := by
  cases v with
  | lst j => cases h; exact k
  | _ => exact no h
@[elab_as_elim] theorem tupO_E {v : V} {i : List V} {Q : V → Prop} (h : tupO v = some i) (k : Q (.tup i)) : Q v := by
  cases v with
  | tup j => cases h; exact k
  | _ => exact no h
@[elab_as_elim] theorem boolE_ {v : V} {i : Bool} {Q : V → Prop} (h : boolO v = some i) (k : Q (.bool i)) : Q v := by
  cases v with
  | bool j => cases h; exact k
  | _ => exact no h
@[elab_as_elim] theorem noneE {v : V} {i : Unit} {Q : V → Prop} (h : noneO v = some i) (k : Q .none) : Q v := by
  cases v with
  | none => exact k
  | _ => exact no h
@[elab_as_elim] theorem objE {v : V} {p : List Str × List V} {Q : V → Prop} (h : objO v = some p) (k : Q (.obj p.1 p.2)) : Q v := by
  cases v with
  | obj j l => cases h; exact k
  | _ => exact no h
@[elab_as_elim] theorem oneE {l : List α} {a : α} {Q : List α → Prop} (h : oneO l = some a) (k : Q [a]) : Q l := by
  cases l with
  | nil => exact no h
  | cons b l =>
    cases l with
    | nil => cases h; exact k
    | cons _ _ => exact no h
@[elab_as_elim] theorem nilE {l : List α} {Q : List α → Prop} (h : l.isEmpty = true) (k : Q []) : Q l := match l, h with
  | [], _ => k
@[elab_as_elim] theorem nameE {e : Expr} {x : Str} {Q : Expr → Prop} (h : nameO e = some x) (k : ∀ p, Q (.Name x p)) : Q e := by
  cases e with
  | Name y p => cases h; exact k p
  | _ => exact no h
@[elab_as_elim] theorem eqE {a b : Str} {Q : Str → Prop} (h : (a == b) = true) (k : Q b) : Q a := eq_of_beq h ▸ k
theorem wm {M : Model} {A : Around} {f : Sem α} {Q Q' : α → Shared → Prop} {X : Value → Shared → Prop} {s : Shared} (h : wpAny M A f Q X s) (k : ∀ v s', Q v s' → Q' v s') : wpAny M A f Q' X s := wpAny_mono h k fun _ _ h => h
end
end Mine
end
section
open PySem PySem.Calls PyProof.Rows PySem.W
set_option maxRecDepth 10000
namespace Mine
structure Fix where
  prog : Program
  w : World
  C : Addr
  mg : Str → Option Value
  mb : Str → Option Value
  K : Frag
  G : Prog
  h0 : Heap
noncomputable abbrev Fix.M (fx : Fix) : Model := model fx.prog fx.w
noncomputable def KeysAre : List Str → List DictEntry → Prop
  | [], es => es = []
  | n :: ns, es => ∃ e r, es = e :: r ∧ (∃ t, e.key = .str n t) ∧ KeysAre ns r
noncomputable def dctEntries (P : Params) : List (List Nat × Int) → List DictEntry → Prop
  | [], es => es = []
  | p :: l, es => ∃ e r, es = e :: r ∧ (∃ t, e.key = .str ⟨p.1.toArray⟩ t) ∧ e.hash = PyData.keyHash P ⟨p.1.toArray⟩ ∧ (∃ t, e.val = .int p.2 t) ∧ dctEntries P l r
noncomputable def Kp (h h' : Heap) : Prop := ∀ b o, h.get? b = some o → h'.get? b = some o
noncomputable def Mv (W W' : Addr → Prop) (h h' : Heap) : Prop := ∀ b o, ¬ W b → h.get? b = some o → ¬ W' b ∧ h'.get? b = some o
theorem Kp.refl (h : Heap) : Kp h h := fun _ _ e => e
theorem Kp.trans {a b c : Heap} (x : Kp a b) (y : Kp b c) : Kp a c := fun b o e => y b o (x b o e)
theorem Kp.push {h : Heap} {o : Obj} : Kp h (h.push o) := fun _ _ e => Heap.get?_push_of_some _ e
noncomputable def seqObj (k : String) (its : Array Value) (n : Nat) : Obj := { cls := .type k, data := .seq its n }
inductive SeqAt (k : String) (W : Addr → Prop) (h : Heap) (P : List Value → Prop) : Value → Prop
  | mk (a : Addr) (its : Array Value) (n : Nat) : ¬ W a → h.get? a = some { cls := .type k, data := .seq its n } → P its.toList → SeqAt k W h P (.ref a)
inductive DctAt (W : Addr → Prop) (h : Heap) (P : List DictEntry → Prop) : Value → Prop
  | mk (a : Addr) (es : List DictEntry) (n : Nat) : ¬ W a → h.get? a = some (dictOf es n) → P es → DctAt W h P (.ref a)
inductive ObjAt (C : Addr) (W : Addr → Prop) (h : Heap) (ns : List Str) (P : List Value → Prop) : Value → Prop
  | mk (a d : Addr) (es : List DictEntry) (n : Nat) : ¬ W a → ¬ W d → a ≠ d → h.get? a = some (instObj C d) → h.get? d = some (dictOf es n) → KeysAre ns es → P (es.map (·.val)) → ObjAt C W h ns P (.ref a)
inductive IntAt (i : Int) : Value → Prop
  | mk (t : Tok) : IntAt i (.int i t)
inductive StrAt (l : List Nat) : Value → Prop
  | mk (t : Tok) : StrAt l (.str ⟨l.toArray⟩ t)
inductive ConsAt (P : Value → Prop) (Q : List Value → Prop) : List Value → Prop
  | mk (c : Value) (cs : List Value) : P c → Q cs → ConsAt P Q (c :: cs)
theorem SeqAt.imp {k : String} {W W' : Addr → Prop} {h h' : Heap} {P P' : List Value → Prop} {c : Value} (x : SeqAt k W h P c) (m : Mv W W' h h') (z : ∀ l, P l → P' l) : SeqAt k W' h' P' c := match x with
  | .mk a its n hW ho hl => .mk a its n (m a _ hW ho).1 (m a _ hW ho).2 (z _ hl)
theorem ConsAt.imp {P P' : Value → Prop} {Q Q' : List Value → Prop} {c : List Value} (x : ConsAt P Q c) (p : ∀ c, P c → P' c) (q : ∀ c, Q c → Q' c) : ConsAt P' Q' c := match x with
  | .mk c cs a b => .mk c cs (p _ a) (q _ b)
theorem DctAt.imp {W W' : Addr → Prop} {h h' : Heap} {P : List DictEntry → Prop} {c : Value} (x : DctAt W h P c) (m : Mv W W' h h') : DctAt W' h' P c := match x with
  | .mk a its n hW ho hl => .mk a its n (m a _ hW ho).1 (m a _ hW ho).2 hl
theorem ObjAt.imp {C : Addr} {W W' : Addr → Prop} {h h' : Heap} {ns : List Str} {P P' : List Value → Prop} {c : Value} (x : ObjAt C W h ns P c) (m : Mv W W' h h') (k : ∀ l, P l → P' l) : ObjAt C W' h' ns P' c := match x with
  | .mk a d es n hW hD hne ho hd hk hl => .mk a d es n (m a _ hW ho).1 (m d _ hD hd).1 hne (m a _ hW ho).2 (m d _ hD hd).2 hk (k _ hl)
section
variable (fx : Fix)
mutual
noncomputable def RepV (W : Addr → Prop) (h : Heap) : V → Value → Prop
  | .none, c => c = .none
  | .bool b, c => c = .bool b
  | .int i, c => IntAt i c
  | .str l, c => StrAt l c
  | .tup l, c => SeqAt "tuple" W h (RepL W h l) c
  | .lst l, c => SeqAt "list" W h (RepL W h l) c
  | .dct l, c => DctAt W h (dctEntries fx.w.params l) c
  | .obj ns vs, c => ObjAt fx.C W h ns (RepL W h vs) c
noncomputable def RepL (W : Addr → Prop) (h : Heap) : List V → List Value → Prop
  | [], l => l = []
  | v :: vs, l => ConsAt (RepV W h v) (RepL W h vs) l
end
mutual
theorem RepV.move {W W' : Addr → Prop} {h h' : Heap} (H : Mv W W' h h') : ∀ (v : V) (c : Value), RepV fx W h v c → RepV fx W' h' v c
  | .none, _, e => e
  | .bool _, _, e => e
  | .int _, _, e => e
  | .str _, _, e => e
  | .tup l, _, e => SeqAt.imp e H (RepL.move H l)
  | .lst l, _, e => SeqAt.imp e H (RepL.move H l)
  | .dct _, _, e => DctAt.imp e H
  | .obj _ vs, _, e => ObjAt.imp e H (RepL.move H vs)
theorem RepL.move {W W' : Addr → Prop} {h h' : Heap} (H : Mv W W' h h') : ∀ (vs : List V) (cs : List Value), RepL fx W h vs cs → RepL fx W' h' vs cs
  | [], _, e => e
  | v :: vs, _, e => ConsAt.imp e (RepV.move H v) (RepL.move H vs)
end
variable {fx}
theorem Kp.mv {W : Addr → Prop} {h h' : Heap} (k : Kp h h') : Mv W W h h' := fun b o hb e => ⟨hb, k b o e⟩
theorem mv_anti {W W' : Addr → Prop} {h : Heap} (k : ∀ b, W' b → W b) : Mv W W' h h := fun b _ hb e => ⟨fun q => hb (k b q), e⟩
theorem RepV.keeps {W : Addr → Prop} {h h' : Heap} {v : V} {c : Value} (x : RepV fx W h v c) (H : Kp h h') : RepV fx W h' v c := RepV.move fx H.mv v c x
theorem RepL.keeps {W : Addr → Prop} {h h' : Heap} {v : List V} {c : List Value} (x : RepL fx W h v c) (H : Kp h h') : RepL fx W h' v c := RepL.move fx H.mv v c x
theorem RepV.anti {W W' : Addr → Prop} {h : Heap} {v : V} {c : Value} (x : RepV fx W h v c) (H : ∀ b, W' b → W b) : RepV fx W' h v c := RepV.move fx (mv_anti H) v c x
theorem RepL.anti {W W' : Addr → Prop} {h : Heap} {v : List V} {c : List Value} (x : RepL fx W h v c) (H : ∀ b, W' b → W b) : RepL fx W' h v c := RepL.move fx (mv_anti H) v c x
theorem RepL.one {W : Addr → Prop} {h : Heap} {v : V} {c : Value} (x : RepV fx W h v c) : RepL fx W h [v] [c] := .mk c [] x rfl
theorem RepL.ind {W : Addr → Prop} {h : Heap} {P : List V → List Value → Prop} (h0 : P [] []) (h1 : ∀ v c vs cs, RepV fx W h v c → RepL fx W h vs cs → P vs cs → P (v :: vs) (c :: cs)) : ∀ {vs : List V} {cs : List Value}, RepL fx W h vs cs → P vs cs
  | [], cs, e => by have e : cs = [] := e; rw [e]; exact h0
  | v :: vs, cs, e => match cs, e with
    | _, .mk c cs a b => h1 v c vs cs a b (RepL.ind h0 h1 b)
theorem RepL.length {W : Addr → Prop} {h : Heap} {vs : List V} {cs : List Value} (x : RepL fx W h vs cs) : cs.length = vs.length :=
  x.ind (P := fun vs cs => cs.length = vs.length) rfl fun _ _ _ _ _ _ e => congrArg (· + 1) e
theorem RepL.get {W : Addr → Prop} {h : Heap} {vs : List V} {cs : List Value} {i : Nat} {v : V} (x : RepL fx W h vs cs) : vs[i]? = some v → ∃ c, cs[i]? = some c ∧ RepV fx W h v c :=
  x.ind (P := fun vs cs => ∀ i, vs[i]? = some v → ∃ c, cs[i]? = some c ∧ RepV fx W h v c) (fun _ q => no q) (fun _ c _ _ hv _ ih i => match i with
    | 0 => fun q => ⟨c, rfl, Option.some.inj q ▸ hv⟩
    | i + 1 => ih i) i
theorem RepL.append {W : Addr → Prop} {h : Heap} {vs us : List V} {cs ds : List Value} (x : RepL fx W h vs cs) (y : RepL fx W h us ds) : RepL fx W h (vs ++ us) (cs ++ ds) :=
  x.ind (P := fun vs cs => RepL fx W h (vs ++ us) (cs ++ ds)) y fun _ c _ _ hv _ ih => .mk c _ hv ih
theorem RepL.snoc {W : Addr → Prop} {h : Heap} {vs : List V} {cs : List Value} {v : V} {c : Value} (x : RepL fx W h vs cs) (y : RepV fx W h v c) : RepL fx W h (vs ++ [v]) (cs ++ [c]) := x.append (.one y)
theorem RepL.take {W : Addr → Prop} {h : Heap} {vs : List V} {cs : List Value} (k : Nat) (x : RepL fx W h vs cs) : RepL fx W h (vs.take k) (cs.take k) :=
  x.ind (P := fun vs cs => ∀ k, RepL fx W h (vs.take k) (cs.take k)) (fun k => by cases k <;> exact rfl) (fun _ c _ _ hv _ ih k => match k with
    | 0 => rfl
    | k + 1 => .mk c _ hv (ih k)) k
theorem RepL.drop {W : Addr → Prop} {h : Heap} {vs : List V} {cs : List Value} (k : Nat) (x : RepL fx W h vs cs) : RepL fx W h (vs.drop k) (cs.drop k) :=
  x.ind (P := fun vs cs => ∀ k, RepL fx W h (vs.drop k) (cs.drop k)) (fun k => by cases k <;> exact rfl) (fun _ c _ _ hv hl ih k => match k with
    | 0 => .mk c _ hv hl
    | k + 1 => ih k) k
theorem RepL.set {W : Addr → Prop} {h : Heap} {vs : List V} {cs : List Value} (k : Nat) {u : V} {d : Value} (x : RepL fx W h vs cs) (q : RepV fx W h u d) : RepL fx W h (setL vs k u) (cs.set k d) :=
  x.ind (P := fun vs cs => ∀ k, RepL fx W h (setL vs k u) (cs.set k d)) (fun _ => rfl) (fun _ c _ _ hv hl ih k => match k with
    | 0 => .mk d _ q hl
    | k + 1 => .mk c _ hv (ih k)) k
theorem RepL.replicate {W : Addr → Prop} {h : Heap} {vs : List V} {cs : List Value} (x : RepL fx W h vs cs) : ∀ n : Nat, RepL fx W h (List.replicate n vs).flatten (List.replicate n cs).flatten
  | 0 => rfl
  | n + 1 => x.append (RepL.replicate x n)
mutual
noncomputable def RepT (fx : Fix) (Wl W : Addr → Prop) (h : Heap) : V → Value → Prop
  | .tup l, c => SeqAt "tuple" Wl h (RepTL fx Wl W h l) c
  | .lst l, c => SeqAt "list" Wl h (RepL fx W h l) c
  | .dct l, c => DctAt Wl h (dctEntries fx.w.params l) c
  | .none, c => c = .none
  | .bool b, c => c = .bool b
  | .int i, c => IntAt i c
  | .str l, c => StrAt l c
  | .obj ns vs, c => RepV fx W h (.obj ns vs) c
noncomputable def RepTL (fx : Fix) (Wl W : Addr → Prop) (h : Heap) : List V → List Value → Prop
  | [], l => l = []
  | v :: vs, l => ConsAt (RepT fx Wl W h v) (RepTL fx Wl W h vs) l
end
mutual
theorem RepV.t {Wl W : Addr → Prop} {h : Heap} (H : ∀ b, Wl b → W b) : ∀ (v : V) (c : Value), RepV fx W h v c → RepT fx Wl W h v c
  | .none, _, e => e
  | .bool _, _, e => e
  | .int _, _, e => e
  | .str _, _, e => e
  | .tup l, _, e => SeqAt.imp e (mv_anti H) (RepL.t H l)
  | .lst _, _, e => SeqAt.imp e (mv_anti H) fun _ q => q
  | .dct _, _, e => DctAt.imp e (mv_anti H)
  | .obj _ _, _, e => e
theorem RepL.t {Wl W : Addr → Prop} {h : Heap} (H : ∀ b, Wl b → W b) : ∀ (vs : List V) (cs : List Value), RepL fx W h vs cs → RepTL fx Wl W h vs cs
  | [], _, e => e
  | v :: vs, _, e => ConsAt.imp e (RepV.t H v) (RepL.t H vs)
end
mutual
theorem RepT.v {Wl W : Addr → Prop} {h : Heap} (H : ∀ b, Wl b → W b) : ∀ (v : V) (c : Value), RepT fx Wl W h v c → RepV fx Wl h v c
  | .none, _, e => e
  | .bool _, _, e => e
  | .int _, _, e => e
  | .str _, _, e => e
  | .tup l, _, e => SeqAt.imp e (Kp.refl h).mv (RepTL.v H l)
  | .lst _, _, e => SeqAt.imp e (Kp.refl h).mv fun _ q => q.anti H
  | .dct _, _, e => e
  | .obj _ _, _, e => RepV.anti e H
theorem RepTL.v {Wl W : Addr → Prop} {h : Heap} (H : ∀ b, Wl b → W b) : ∀ (vs : List V) (cs : List Value), RepTL fx Wl W h vs cs → RepL fx Wl h vs cs
  | [], _, e => e
  | v :: vs, _, e => ConsAt.imp e (RepT.v H v) (RepTL.v H vs)
end
mutual
theorem RepT.keeps {Wl W : Addr → Prop} {h h' : Heap} (H : Kp h h') : ∀ (v : V) (c : Value), RepT fx Wl W h v c → RepT fx Wl W h' v c
  | .none, _, e => e
  | .bool _, _, e => e
  | .int _, _, e => e
  | .str _, _, e => e
  | .tup l, _, e => SeqAt.imp e H.mv (RepTL.keeps H l)
  | .lst _, _, e => SeqAt.imp e H.mv fun _ q => q.keeps H
  | .dct _, _, e => DctAt.imp e H.mv
  | .obj _ _, _, e => RepV.keeps e H
theorem RepTL.keeps {Wl W : Addr → Prop} {h h' : Heap} (H : Kp h h') : ∀ (vs : List V) (cs : List Value), RepTL fx Wl W h vs cs → RepTL fx Wl W h' vs cs
  | [], _, e => e
  | v :: vs, _, e => ConsAt.imp e (RepT.keeps H v) (RepTL.keeps H vs)
end
theorem RepTL.ind {Wl W : Addr → Prop} {h : Heap} {P : List V → List Value → Prop} (h0 : P [] []) (h1 : ∀ v c vs cs, RepT fx Wl W h v c → RepTL fx Wl W h vs cs → P vs cs → P (v :: vs) (c :: cs)) : ∀ {vs : List V} {cs : List Value}, RepTL fx Wl W h vs cs → P vs cs
  | [], cs, e => by have e : cs = [] := e; rw [e]; exact h0
  | v :: vs, cs, e => match cs, e with
    | _, .mk c cs a b => h1 v c vs cs a b (RepTL.ind h0 h1 b)
theorem RepTL.length {Wl W : Addr → Prop} {h : Heap} {vs : List V} {cs : List Value} (x : RepTL fx Wl W h vs cs) : cs.length = vs.length :=
  x.ind (P := fun vs cs => cs.length = vs.length) rfl fun _ _ _ _ _ _ e => congrArg (· + 1) e
theorem RepTL.get {Wl W : Addr → Prop} {h : Heap} {vs : List V} {cs : List Value} {i : Nat} {v : V} (x : RepTL fx Wl W h vs cs) : vs[i]? = some v → ∃ c, cs[i]? = some c ∧ RepT fx Wl W h v c :=
  x.ind (P := fun vs cs => ∀ i, vs[i]? = some v → ∃ c, cs[i]? = some c ∧ RepT fx Wl W h v c) (fun _ q => no q) (fun _ c _ _ hv _ ih i => match i with
    | 0 => fun q => ⟨c, rfl, Option.some.inj q ▸ hv⟩
    | i + 1 => ih i) i
section
variable {Wl W : Addr → Prop} {h : Heap} {c : Value} {Q : Value → Prop}
@[elab_as_elim] theorem RepT.int {i : Int} (x : RepT fx Wl W h (.int i) c) (k : ∀ t, Q (.int i t)) : Q c := match c, x with
  | _, .mk t => k t
@[elab_as_elim] theorem RepT.str {i : List Nat} (x : RepT fx Wl W h (.str i) c) (k : ∀ t, Q (.str ⟨i.toArray⟩ t)) : Q c := match c, x with
  | _, .mk t => k t
@[elab_as_elim] theorem RepT.seq {s : String} {P : List Value → Prop} (x : SeqAt s Wl h P c) (k : ∀ a its n, ¬ Wl a → h.get? a = some { cls := .type s, data := .seq its n } → P its.toList → Q (.ref a)) : Q c := match c, x with
  | _, .mk a its n hW ho hl => k a its n hW ho hl
@[elab_as_elim] theorem RepT.lst {l : List V} (x : RepT fx Wl W h (.lst l) c) (k : ∀ a its n, h.get? a = some { cls := .type "list", data := .seq its n } → RepL fx W h l its.toList → its.size = l.length → Q (.ref a)) : Q c :=
  RepT.seq x fun a its n _ ho hl => k a its n ho hl (its.length_toList.symm.trans hl.length)
@[elab_as_elim] theorem RepV.lst {l : List V} (x : RepV fx W h (.lst l) c) (k : ∀ a its n, ¬ W a → h.get? a = some { cls := .type "list", data := .seq its n } → RepL fx W h l its.toList → its.size = l.length → Q (.ref a)) : Q c :=
  RepT.seq x fun a its n hW ho hl => k a its n hW ho hl (its.length_toList.symm.trans hl.length)
@[elab_as_elim] theorem RepV.obj {ns : List Str} {vs : List V} (x : RepV fx W h (.obj ns vs) c) (k : ∀ a d es n, a ≠ d → h.get? a = some (instObj fx.C d) → h.get? d = some (dictOf es n) → KeysAre ns es → RepL fx W h vs (es.map (·.val)) → Q (.ref a)) : Q c := match c, x with
  | _, .mk a d es n _ _ hne ho hd hk hl => k a d es n hne ho hd hk hl
@[elab_as_elim] theorem RepT.intO {v : V} {i : Int} (e : intO v = some i) (x : RepT fx Wl W h v c) (k : ∀ t, Q (.int i t)) : Q c := RepT.int (intE (Q := fun v => RepT fx Wl W h v c → RepT fx Wl W h (.int i) c) e id x) k
@[elab_as_elim] theorem RepT.strO {v : V} {i : List Nat} (e : strO v = some i) (x : RepT fx Wl W h v c) (k : ∀ t, Q (.str ⟨i.toArray⟩ t)) : Q c := RepT.str (strE (Q := fun v => RepT fx Wl W h v c → RepT fx Wl W h (.str i) c) e id x) k
@[elab_as_elim] theorem RepT.boolO {v : V} {i : Bool} (e : boolO v = some i) (x : RepT fx Wl W h v c) (k : Q (.bool i)) : Q c := (boolE_ (Q := fun v => RepT fx Wl W h v c → c = .bool i) e id x) ▸ k
@[elab_as_elim] theorem RepT.noneO {v : V} {i : Unit} (e : noneO v = some i) (x : RepT fx Wl W h v c) (k : Q .none) : Q c := (noneE (Q := fun v => RepT fx Wl W h v c → c = .none) e id x) ▸ k
@[elab_as_elim] theorem RepT.lstO {v : V} {l : List V} (e : lstO v = some l) (x : RepT fx Wl W h v c) (k : ∀ a its n, h.get? a = some { cls := .type "list", data := .seq its n } → RepL fx W h l its.toList → its.size = l.length → Q (.ref a)) : Q c := RepT.lst (lstE (Q := fun v => RepT fx Wl W h v c → RepT fx Wl W h (.lst l) c) e id x) k
@[elab_as_elim] theorem RepTL.one {v : V} {cs : List Value} {Q : List Value → Prop} (x : RepTL fx Wl W h [v] cs) (k : ∀ c, RepT fx Wl W h v c → Q [c]) : Q cs := match cs, x with
  | _, .mk c _ hv e => (e : _ = []) ▸ k c hv
@[elab_as_elim] theorem RepTL.cons {v : V} {vs : List V} {cs : List Value} {Q : List Value → Prop} (x : RepTL fx Wl W h (v :: vs) cs) (k : ∀ c cs, RepT fx Wl W h v c → RepTL fx Wl W h vs cs → Q (c :: cs)) : Q cs := match cs, x with
  | _, .mk c cs hv e => k c cs hv e
@[elab_as_elim] theorem RepL.cons {v : V} {vs : List V} {cs : List Value} {Q : List Value → Prop} (x : RepL fx W h (v :: vs) cs) (k : ∀ c cs, RepV fx W h v c → RepL fx W h vs cs → Q (c :: cs)) : Q cs := match cs, x with
  | _, .mk c cs hv e => k c cs hv e
@[elab_as_elim] theorem RepL.one' {v : V} {cs : List Value} {Q : List Value → Prop} (x : RepL fx W h [v] cs) (k : ∀ c, RepV fx W h v c → Q [c]) : Q cs := match cs, x with
  | _, .mk c _ hv e => (e : _ = []) ▸ k c hv
end
noncomputable def RepB (fx : Fix) (t : Bool) (Wl W : Addr → Prop) (h : Heap) (v : V) (c : Value) : Prop := match t with
  | true => RepT fx Wl W h v c
  | false => RepV fx W h v c
theorem RepB.t {b : Bool} {Wl W : Addr → Prop} {h : Heap} {v : V} {c : Value} (x : RepB fx b Wl W h v c) (H : ∀ b, Wl b → W b) : RepT fx Wl W h v c := match b, x with
  | true, x => x
  | false, x => RepV.t H _ _ x
theorem RepB.keeps {b : Bool} {Wl W : Addr → Prop} {h h' : Heap} {v : V} {c : Value} (x : RepB fx b Wl W h v c) (H : Kp h h') : RepB fx b Wl W h' v c := match b, x with
  | true, x => RepT.keeps H _ _ x
  | false, x => RepV.keeps x H
structure Ext (s s' : Shared) : Prop where
  keep : Kp s.heap s'.heap
  gens : ∀ (i : Nat) (x : GenState), s.gens[i]? = some x → s'.gens[i]? = some x
  bare : AllBare s.gens → AllBare s'.gens
  os : s'.os = s.os
theorem Ext.refl (s : Shared) : Ext s s := ⟨fun _ _ e => e, fun _ _ e => e, fun e => e, rfl⟩
theorem Ext.trans {s s' s'' : Shared} (x : Ext s s') (y : Ext s' s'') : Ext s s'' :=
  ⟨fun b o e => y.keep b o (x.keep b o e), fun i g e => y.gens i g (x.gens i g e), fun e => y.bare (x.bare e), y.os.trans x.os⟩
theorem Ext.heap {s : Shared} {h' : Heap} {tk : Nat} (k : Kp s.heap h') : Ext s { s with heap := h', toks := tk } := ⟨k, fun _ _ e => e, fun e => e, rfl⟩
theorem Ext.tok {s : Shared} {tk : Nat} : Ext s { s with toks := tk } := .heap fun _ _ e => e
theorem Ext.push {s : Shared} {o : Obj} {tk : Nat} : Ext s { s with heap := s.heap.push o, toks := tk } := .heap fun _ _ e => Heap.get?_push_of_some o e
theorem Ext.of_keeps {s s' : Shared} (x : Keeps s s') : Ext s s' := by
  obtain ⟨h', tk, rfl, k⟩ := x
  exact .heap k
inductive At (env : Env) (h : Heap) (x : Str) (v : Value) : Prop where
  | loc (m : Str → Option Value) : env.kindOf x = some .local → h.Ns env.locals m → m x = some v → At env h x v
  | cell (c : Addr) : env.kindOf x = some .cell → env.cells.lookup x = some c → h.IsCell c (some v) → At env h x v
theorem At.keeps {env : Env} {h h' : Heap} {x : Str} {v : Value} (a : At env h x v) (k : Kp h h') : At env h' x v := by
  cases a with
  | loc m h1 h2 h3 => exact .loc m h1 (h2.keeps k) h3
  | cell c h1 h2 h3 => exact .cell c h1 h2 (h3.keeps k)
noncomputable def Ws (env : Env) (b : Addr) : Prop := b = env.locals ∨ ∃ x, (x, b) ∈ env.cells
noncomputable def Wf (Wl : Addr → Prop) (ow : List (Str × Addr)) (b : Addr) : Prop := Wl b ∨ ∃ x, (x, b) ∈ ow
inductive LstOwn (h : Heap) (a : Addr) (P : List Value → Prop) : Prop
  | mk (its : Array Value) (n : Nat) : h.get? a = some { cls := .type "list", data := .seq its n } → P its.toList → LstOwn h a P
inductive ObjOwn (C : Addr) (ow : List (Str × Addr)) (x : Str) (h : Heap) (a : Addr) (ns : List Str) (P : List Value → Prop) : Prop
  | mk (d : Addr) (es : List DictEntry) (n : Nat) : (x, d) ∈ ow → a ≠ d → h.get? a = some (instObj C d) → h.get? d = some (dictOf es n) → KeysAre ns es → P (es.map (·.val)) → ObjOwn C ow x h a ns P
noncomputable def OwnAt (fx : Fix) (W : Addr → Prop) (ow : List (Str × Addr)) (x : Str) (h : Heap) (a : Addr) : V → Prop
  | .lst l => LstOwn h a (RepL fx W h l)
  | .obj ns vs => ObjOwn fx.C ow x h a ns (RepL fx W h vs)
  | _ => False
noncomputable def objMark : Str := ("__debug__" : Str)
noncomputable def ownName (x : Str) : V → Str
  | .obj _ _ => objMark
  | _ => x
inductive ValR (P : Value → Prop) (Q : Value → Prop) : Prop
  | mk (c : Value) : P c → Q c → ValR P Q
inductive OwnR (ow : List (Str × Addr)) (y : Str) (P : Value → Prop) (Q : Addr → Prop) : Prop
  | mk (a : Addr) : (y, a) ∈ ow → P (.ref a) → Q a → OwnR ow y P Q
noncomputable def BdR (fx : Fix) (W : Addr → Prop) (ow : List (Str × Addr)) (env : Env) (h : Heap) (x : Str) : Bd → Prop
  | .val v => ValR (At env h x) (RepV fx W h v)
  | .own v => OwnR ow (ownName x v) (At env h x) fun a => OwnAt fx W ow x h a v
structure BaseH (fx : Fix) (h : Heap) : Prop where
  g : h.Ns mainGlobals fx.mg
  b : h.Ns builtinsNs fx.mb
  nolimit : h.NoLimit
  X : fx.K.In h
theorem BaseH.keeps {h h' : Heap} (B : BaseH fx h) (k : Kp h h') : BaseH fx h' := ⟨B.g.keeps k, B.b.keeps k, B.nolimit.keeps k, B.X.keeps k⟩
structure Gd (fx : Fix) (W : Addr → Prop) (h : Heap) : Prop where
  b0 : BaseH fx fx.h0
  old : ∀ b o, fx.h0.get? b = some o → ¬ W b ∧ h.get? b = some o
  alloc : ∀ b, W b → ∃ o, h.get? b = some o
theorem Gd.base {W : Addr → Prop} {h : Heap} (g : Gd fx W h) : BaseH fx h := g.b0.keeps fun b o e => (g.old b o e).2
theorem Gd.keeps {W : Addr → Prop} {h h' : Heap} (g : Gd fx W h) (k : Kp h h') : Gd fx W h' :=
  ⟨g.b0, fun b o e => ⟨(g.old b o e).1, k _ _ (g.old b o e).2⟩, fun b q => let ⟨o, e⟩ := g.alloc b q; ⟨o, k _ _ e⟩⟩
theorem Gd.anti {W W' : Addr → Prop} {h : Heap} (g : Gd fx W h) (k : ∀ b, W' b → W b) : Gd fx W' h :=
  ⟨g.b0, fun b o e => ⟨fun q => (g.old b o e).1 (k b q), (g.old b o e).2⟩, fun b q => g.alloc b (k b q)⟩
theorem Gd.fresh {W : Addr → Prop} {h : Heap} (g : Gd fx W h) {a : Addr} (e : h.get? a = none) : ¬ W a := fun q => by
  obtain ⟨o, ho⟩ := g.alloc a q
  rw [e] at ho; cases ho
structure FR (fx : Fix) (env : Env) (c : Cx) (Wl : Addr → Prop) (ow : List (Str × Addr)) (ρ : Rho) (h : Heap) : Prop where
  kind : env.scope.kind = .function
  names : env.scope.names = c.k
  nodbg : c.k.lookup ("__debug__" : Str) = none
  gl : env.globals = mainGlobals
  bl : env.builtins = builtinsNs
  gd : Gd fx (Wf Wl ow) h
  ns : ∃ m, h.Ns env.locals m
  cells : ∀ x c, (x, c) ∈ env.cells → ∃ v, h.IsCell c v
  hascell : ∀ x, c.k.lookup x = some .cell → ∃ a, env.cells.lookup x = some a
  capart : env.cells.Pairwise fun x y => x.2 ≠ y.2
  cloc : ∀ x c, (x, c) ∈ env.cells → c ≠ env.locals
  ws : ∀ b, Ws env b → Wl b
  owd : (ow.map (·.2)).Nodup
  owl : ∀ p ∈ ow, ¬ Wl p.2
  bind : ∀ x b, find ρ x = some b → BdR fx (Wf Wl ow) ow env h x b
theorem FR.base {env : Env} {c : Cx} {Wl : Addr → Prop} {ow : List (Str × Addr)} {ρ : Rho} {h : Heap} (F : FR fx env c Wl ow ρ h) : BaseH fx h := F.gd.base
theorem FR.alloc {env : Env} {c : Cx} {Wl : Addr → Prop} {ow : List (Str × Addr)} {ρ : Rho} {h : Heap} (F : FR fx env c Wl ow ρ h) : ∀ b, Wf Wl ow b → ∃ o, h.get? b = some o := F.gd.alloc
theorem OwnAt.move {W W' : Addr → Prop} {ow ow' : List (Str × Addr)} {x : Str} {h h' : Heap} {a : Addr} {v : V} (q : OwnAt fx W ow x h a v) (ha : ∀ o, h.get? a = some o → h'.get? a = some o) (hd : ∀ d o, (x, d) ∈ ow → h.get? d = some o → (x, d) ∈ ow' ∧ h'.get? d = some o)
    (mv : Mv W W' h h') : OwnAt fx W' ow' x h' a v := match v, q with
  | .lst l, .mk its n q1 q2 => .mk its n (ha _ q1) (RepL.move fx mv _ _ q2)
  | .obj ns vs, .mk d es n q1 q2 q3 q4 q5 q6 => .mk d es n (hd d _ q1 q4).1 q2 (ha _ q3) (hd d _ q1 q4).2 q5 (RepL.move fx mv _ _ q6)
theorem OwnAt.keeps {W : Addr → Prop} {ow : List (Str × Addr)} {x : Str} {h h' : Heap} {a : Addr} {v : V} (q : OwnAt fx W ow x h a v) (k : Kp h h') : OwnAt fx W ow x h' a v := q.move (k _) (fun d o m e => ⟨m, k d o e⟩) k.mv
theorem BdR.move {W W' : Addr → Prop} {ow ow' : List (Str × Addr)} {env : Env} {x : Str} {h h' : Heap} {b : Bd} (q : BdR fx W ow env h x b) (ha : ∀ v, At env h x v → At env h' x v) (ho : ∀ a y, (y, a) ∈ ow → y = objMark ∨ y = x → (y, a) ∈ ow' ∧ ∀ o, h.get? a = some o → h'.get? a = some o)
    (mv : Mv W W' h h') : BdR fx W' ow' env h' x b := match b, q with
  | .val _, .mk c h1 h2 => .mk c (ha c h1) (RepV.move fx mv _ _ h2)
  | .own v, .mk a h1 h2 h3 => have z : ownName x v = objMark ∨ ownName x v = x := by cases v <;> first | exact .inr rfl | exact .inl rfl
    .mk a (ho a _ h1 z).1 (ha _ h2) (h3.move (ho a _ h1 z).2 (fun d o m e => ⟨(ho d x m (.inr rfl)).1, (ho d x m (.inr rfl)).2 o e⟩) mv)
theorem BdR.keeps {W : Addr → Prop} {ow : List (Str × Addr)} {env : Env} {x : Str} {h h' : Heap} {b : Bd} (q : BdR fx W ow env h x b) (k : Kp h h') : BdR fx W ow env h' x b := q.move (fun _ a => a.keeps k) (fun a _ m _ => ⟨m, k a⟩) k.mv
theorem FR.keeps {env : Env} {c : Cx} {Wl : Addr → Prop} {ow : List (Str × Addr)} {ρ : Rho} {h h' : Heap} (F : FR fx env c Wl ow ρ h) (k : Kp h h') : FR fx env c Wl ow ρ h' :=
  { F with
    gd := F.gd.keeps k
    ns := let ⟨m, q⟩ := F.ns; ⟨m, q.keeps k⟩
    cells := fun x c e => let ⟨v, q⟩ := F.cells x c e; ⟨v, q.keeps k⟩
    bind := fun x b e => (F.bind x b e).keeps k }
theorem FR.ext {env : Env} {c : Cx} {Wl : Addr → Prop} {ow : List (Str × Addr)} {ρ : Rho} {s s' : Shared} (F : FR fx env c Wl ow ρ s.heap) (k : Ext s s') : FR fx env c Wl ow ρ s'.heap := F.keeps k.keep
theorem FR.wl {env : Env} {c : Cx} {Wl : Addr → Prop} {ow : List (Str × Addr)} {ρ : Rho} {h : Heap} (_ : FR fx env c Wl ow ρ h) : ∀ b, Wl b → Wf Wl ow b := fun _ q => .inl q
theorem FR.fresh {env : Env} {c : Cx} {Wl : Addr → Prop} {ow : List (Str × Addr)} {ρ : Rho} {h : Heap} (F : FR fx env c Wl ow ρ h) {a : Addr} (e : h.get? a = none) : ¬ Wf Wl ow a := fun q => by
  obtain ⟨o, ho⟩ := F.alloc a q
  rw [e] at ho; cases ho
theorem get?_size (h : Heap) : h.get? h.objs.size = none := by
  cases e : h.get? h.objs.size with
  | none => rfl
  | some o => exact absurd (Heap.lt_size e) (Nat.lt_irrefl _)
theorem FR.freshSize {env : Env} {c : Cx} {Wl : Addr → Prop} {ow : List (Str × Addr)} {ρ : Rho} {h : Heap} (F : FR fx env c Wl ow ρ h) : ¬ Wf Wl ow h.objs.size := F.fresh (get?_size h)
structure Stp (env : Env) (ow ow' : List (Str × Addr)) (s s' : Shared) : Prop where
  keep : ∀ b o, ¬ Wf (Ws env) ow b → s.heap.get? b = some o → s'.heap.get? b = some o
  grow : ∀ x b, (x, b) ∈ ow' → (x, b) ∈ ow ∨ s.heap.get? b = none
  mono : ∀ b o, s.heap.get? b = some o → ∃ o', s'.heap.get? b = some o'
  gens : ∀ (i : Nat) (x : GenState), s.gens[i]? = some x → s'.gens[i]? = some x
  bare : AllBare s.gens → AllBare s'.gens
  os : s'.os = s.os
  mark : ∀ b, (objMark, b) ∈ ow' → (objMark, b) ∈ ow
theorem Stp.of_ext {env : Env} {ow : List (Str × Addr)} {s s' : Shared} (x : Ext s s') : Stp env ow ow s s' := ⟨fun b o _ e => x.keep b o e, fun _ _ q => .inl q, fun b o e => ⟨o, x.keep b o e⟩, x.gens, x.bare, x.os, fun _ q => q⟩
theorem Stp.trans {env : Env} {ow ow' ow'' : List (Str × Addr)} {s s' s'' : Shared} (x : Stp env ow ow' s s') (y : Stp env ow' ow'' s' s'') : Stp env ow ow'' s s'' := by
  refine ⟨fun b o hn e => y.keep b o (fun q => ?_) (x.keep b o hn e), fun z b q => ?_, fun b o e => let ⟨o', e'⟩ := x.mono b o e; y.mono b o' e', fun i g e => y.gens i g (x.gens i g e), fun e => y.bare (x.bare e), y.os.trans x.os, fun b q => x.mark b (y.mark b q)⟩
  · rcases q with q | ⟨z, q⟩
    · exact hn (.inl q)
    · exact (x.grow z b q).elim (fun q => hn (.inr ⟨z, q⟩)) fun q => by rw [e] at q; cases q
  · rcases y.grow z b q with q | q
    · exact x.grow z b q
    · cases e : s.heap.get? b with
      | none => exact .inr rfl
      | some o => obtain ⟨o', e'⟩ := x.mono b o e; rw [e'] at q; cases q
structure Room (A : Around) (n : Nat) : Prop where
  depth : A.depth + n ≤ 900
  units : A.units + 20 * n ≤ 9000
  handled : A.handled = none
theorem Room.le {A : Around} {n m : Nat} (R : Room A n) (h : m ≤ n) : Room A m := ⟨by have := R.depth; omega, by have := R.units; omega, R.handled⟩
end
end Mine
end
section
open PySem PySem.Calls PyProof.Rows PySem.W
set_option maxRecDepth 10000
namespace Mine
variable {fx : Fix}
theorem bits_le {a : Int} (h : intOk a = true) : Builtin.Int.intBits a ≤ 8000 := by
  unfold intOk at h
  have h := of_decide_eq_true h
  unfold Builtin.Int.intBits
  split <;> omega
theorem mulOk_of {a b : Int} (ha : intOk a = true) (hb : intOk b = true) : IntMulOk a b := by
  have := bits_le ha
  have := bits_le hb
  unfold IntMulOk
  intro q
  have q := (Bool.and_eq_true_iff.mp q).2
  unfold Builtin.Int.intTooBig at q
  have q := of_decide_eq_true q
  simp only [bitsLine] at q
  omega
theorem str_app (a b : List Nat) : (⟨a.toArray⟩ ++ ⟨b.toArray⟩ : Str) = ⟨(a ++ b).toArray⟩ := by
  show Str.append _ _ = _
  simp [Str.append]
theorem foldl_app {α : Type} (l : List (Array α)) : ∀ acc : Array α, l.foldl (· ++ ·) acc = (acc.toList ++ (l.map Array.toList).flatten).toArray := by
  induction l with
  | nil => intro acc; simp
  | cons x r ih => intro acc; rw [List.foldl_cons, ih]; simp
theorem txt_mul (a : List Nat) (n : Int) : Txt.mul ⟨a.toArray⟩ n = ⟨(List.replicate n.toNat a).flatten.toArray⟩ := by
  unfold Txt.mul
  split
  · have : n.toNat = 0 := by omega
    rw [this]; rfl
  · split
    · rename_i h1 h2
      simp only [Bool.or_eq_true, beq_iff_eq] at h2
      rcases h2 with h2 | h2
      · subst h2; simp
      · have : a = [] := by simpa [Str.length] using h2
        subst this
        have : (List.replicate n.toNat ([] : List Nat)).flatten = [] := by simp
        rw [this]
    · rw [foldl_app]; simp
structure VPost (fx : Fix) (W : Addr → Prop) (s : Shared) (z : V) (c : Value) (s' : Shared) : Prop where
  ext : Ext s s'
  rep : RepV fx W s'.heap z c
noncomputable def BinS (fx : Fix) (A : Around) (W : Addr → Prop) (s : Shared) (z : V) (t : Sem Value) : Prop := ∀ E, wpAny fx.M A t (VPost fx W s z) E s
theorem int_v {W : Addr → Prop} {h : Heap} {i : Int} {t : Tok} : RepV fx W h (.int i) (.int i t) := .mk t
theorem bool_v {W : Addr → Prop} {h : Heap} {b : Bool} : RepV fx W h (.bool b) (.bool b) := rfl
theorem none_v {W : Addr → Prop} {h : Heap} : RepV fx W h .none .none := rfl
theorem str_v {W : Addr → Prop} {h : Heap} {l : List Nat} {t : Tok} : RepV fx W h (.str l) (.str ⟨l.toArray⟩ t) := .mk t
theorem lst_at {W : Addr → Prop} {h : Heap} {vs : List V} {a : Addr} {its : Array Value} {n : Nat} (hf : ¬ W a) (ho : h.get? a = some { cls := .type "list", data := .seq its n }) (hl : RepL fx W h vs its.toList) : RepV fx W h (.lst vs) (.ref a) := .mk a its n hf ho hl
theorem lst_new {W : Addr → Prop} {h : Heap} {vs : List V} {its : Array Value} (hf : ¬ W h.objs.size) (hl : RepL fx W h vs its.toList) :
    RepV fx W (h.push { cls := .type "list", data := .seq its }) (.lst vs) (.ref h.objs.size) := .mk _ its 0 hf (Heap.get?_push_size _ rfl) (hl.keeps Kp.push)
theorem tup_new {W : Addr → Prop} {h : Heap} {vs : List V} {its : Array Value} (hf : ¬ W h.objs.size) (hl : RepL fx W h vs its.toList) :
    RepV fx W (h.push { cls := .type "tuple", data := .seq its }) (.tup vs) (.ref h.objs.size) := .mk _ its 0 hf (Heap.get?_push_size _ rfl) (hl.keeps Kp.push)
theorem fr_any {L : Addr} {h : Heap} {m : Str → Option Value} (x : h.Ns L m) : Fr {} L h m := by
  refine ⟨x, fun b o e => ?_, Nat.zero_le _⟩
  have : (({} : Heap).get? b) = none := by unfold Heap.get?; simp
  rw [this] at e
  cases e
theorem news_nil {h₀ h : Heap} {L : Addr} : News h₀ L h [] := fun _ hp => nomatch hp
theorem times_list {prog : Program} {w : World} {A : Around} {E : Value → Shared → Prop} {s : Shared} {l : Addr} {its : Array Value} {k : Nat} {x : Int} {u : Tok} {Q : Value → Shared → Prop}
    (ho : s.heap.get? l = some { cls := .type "list", data := .seq its k }) (h1 : -(2 ^ 63 : Int) ≤ x) (h2 : x < 2 ^ 63) (h3 : its.size * x.toNat ≤ 2 ^ 24)
    (q : Q (.ref s.heap.objs.size) { s with heap := s.heap.push { cls := .type "list", data := .seq (List.foldl (· ++ ·) #[] (List.replicate (if its.isEmpty = true then 0 else x.toNat) its)) } }) :
    wpAny (model prog w) A (binaryOp .Mult (.ref l) (.int x u)) Q E s := by
  refine wpAny_binaryOp_repeat_ref (T := "list") (U := "int") (by decide) ⟨_, ho, rfl⟩ (fun s' => typeIs_int s' x u) noFill_list_mul F.fills_int_mul F.slot_int_rmul repeat_list F.slot_int_index.lookup ?_
  refine call_meets F.slot_int_rmul (typeIs_int s x u) F.entry_int_rmul (F.args_int_rmul_2 _ _) (int___rmul___int_list x u l its k) ⟨ho, rfl, ⟨_, ho, rfl⟩, ?_⟩
  refine call_meets F.slot_list_mul ⟨_, ho, rfl⟩ F.entry_list_mul (F.args_list_mul_2 _ _) (AutoListH.list___mul___list_int_3 l its k x u ?_ ?_ ?_) ⟨ho, q⟩
  · simp [Builtin.List.listFitsIndex]; omega
  · omega
  · simp [Builtin.List.listTooLong, sizeLine]; omega
theorem lenOk_iff {n : Nat} (h : lenOk n = true) : n ≤ 100000 := of_decide_eq_true h
theorem smallI_iff {i : Int} (h : smallI i = true) : -1000000000 ≤ i ∧ i ≤ 1000000000 := andE h fun a b => ⟨decT a, decT b⟩
section
variable {A : Around} {Wl W : Addr → Prop} {s : Shared} {x y z : V} {a b : Value}
theorem int2_sound {f : Int → Int → Option V} {t : Value → Value → Sem Value} (H : ∀ i j u v z, f i j = some z → BinS fx A W s z (t (.int i u) (.int j v))) (ha : RepT fx Wl W s.heap x a) (hb : RepT fx Wl W s.heap y b) (e : int2 f x y = some z) : BinS fx A W s z (t a b) :=
  bindE e fun i e1 e => bindE e fun j e2 e => ha.intO e1 fun u => hb.intO e2 fun v => H i j u v z e
theorem add_sound (hf : ¬ W s.heap.objs.size) (ha : RepT fx Wl W s.heap x a) (hb : RepT fx Wl W s.heap y b) (e : addV x y = some z) : BinS fx A W s z (binaryOp .Add a b) := by
  intro E
  cases x with
  | int i => exact bindE e fun j e1 e => ha.int fun u => hb.intO e1 fun v => someE e (PyProof.Rows.add_int ⟨.tok, int_v⟩)
  | str l =>
    refine bindE e fun j e1 e => iteY e fun q e => ha.str fun u => hb.strO e1 fun v => someE e (PyProof.Rows.add_str (fun t' tk => ⟨.tok, ?_⟩) ?_)
    · rw [str_app]; exact str_v
    · have q := lenOk_iff q
      simp only [Str.length, List.size_toArray, sizeLine]; omega
  | lst l =>
    refine bindE e fun j e1 e => iteY e fun q e => ha.lst fun p its n ho hl z1 => hb.lstO e1 fun p' its' n' ho' hl' z2 => someE e (P.add_list ho ho' ⟨.push, lst_new hf ?_⟩ ?_)
    · rw [Array.toList_append]; exact hl.append hl'
    · have q := lenOk_iff q
      simp only [sizeLine]; omega
  | _ => exact no e
theorem mul_sound (hf : ¬ W s.heap.objs.size) (ha : RepT fx Wl W s.heap x a) (hb : RepT fx Wl W s.heap y b) (e : mulV x y = some z) : BinS fx A W s z (binaryOp .Mult a b) := by
  intro E
  refine bindE e fun i e1 e => hb.intO e1 fun v => ?_
  cases x with
  | int j => exact iteY e fun q e => andE q fun q1 q2 => ha.int fun u => someE e (PyProof.Rows.mul_int ⟨.tok, int_v⟩ (mulOk_of q1 q2))
  | str l =>
    refine iteY e fun q e => andE q fun q1 q2 => ha.str fun u => someE e (SB.mul ⟨?_, ?_, ?_⟩ (fun t' k => ⟨.tok, ?_⟩))
    all_goals have q1 := smallI_iff q1; have q2 := lenOk_iff q2
    · simp only [Bool.or_eq_false_iff, decide_eq_false_iff_not]; omega
    · intro h1 h2 h3
      have h4 : l.length ≤ 100000 := by
        have : l.length * 1 ≤ l.length * i.toNat := Nat.mul_le_mul_left _ (by omega)
        omega
      have h5 : (2 ^ 63 - 1) / i ≥ (2 ^ 63 - 1) / 1000000000 := Int.le_ediv_of_mul_le (by omega) (by
        have : (2 ^ 63 - 1 : Int) / 1000000000 = 9223372036 := by decide
        rw [this]; omega)
      simp only [Str.length, List.size_toArray] at h3
      omega
    · intro _ _
      simp only [Builtin.Str.tooLong, Str.length, List.size_toArray, sizeLine, decide_eq_false_iff_not]
      omega
    · rw [txt_mul]; exact str_v
  | lst l =>
    refine iteY e fun q e => andE q fun q1 q2 => ha.lst fun p its n ho hl z1 => someE e ?_
    have q1 := smallI_iff q1; have q2 := lenOk_iff q2
    refine times_list ho (by omega) (by omega) (by rw [z1]; omega) ⟨.push, lst_new hf ?_⟩
    rw [foldl_app]
    split
    · rename_i q2
      have : its = #[] := by simpa using q2
      subst this
      have : l = [] := List.length_eq_zero_iff.mp z1.symm
      subst this
      simp [RepL]
    · simpa using hl.replicate i.toNat
  | _ => exact no e
theorem bin_sound {op : Operator} (hf : ¬ W s.heap.objs.size)
    (ha : RepT fx Wl W s.heap x a) (hb : RepT fx Wl W s.heap y b) (e : binV op x y = some z) : BinS fx A W s z (binaryOp op a b) := by
  cases op with
  | Add => exact add_sound hf ha hb e
  | Sub => exact int2_sound (t := binaryOp .Sub) (fun i j u v z e E => someE e (PyProof.Rows.sub_int ⟨.tok, int_v⟩)) ha hb e
  | Mult => exact mul_sound hf ha hb e
  | FloorDiv => exact int2_sound (t := binaryOp .FloorDiv) (fun i j u v z e E => iteY e fun q e => andE q fun q1 q2 => andE q2 fun _ q2 => someE e (PyProof.Rows.floordiv_int (decT q1) ⟨.tok, int_v⟩ (.inl (PyProof.noPylong_of_log2 (by have := decT q2; omega))))) ha hb e
  | Mod => exact int2_sound (t := binaryOp .Mod) (fun i j u v z e E => iteY e fun q e => someE e (PyProof.Rows.mod_int (decT q) ⟨.tok, int_v⟩)) ha hb e
  | Pow => exact int2_sound (t := binaryOp .Pow) (fun i j u v z e E => iteY e fun q e => andE q fun q1 q2 => andE q2 fun q2 q3 => someE e (PyProof.Rows.pow_int (decT q1) (by
      have h1 := bits_le q2
      have h2 := decT q1
      have h4 := decT q3
      have h3 : (Builtin.Int.intBits i : Int) * j ≤ 8000 * 100 := Int.mul_le_mul (by omega) h4 h2 (by omega)
      omega) ⟨.tok, int_v⟩)) ha hb e
  | _ => exact no e
end
end Mine
end
section
open PySem PySem.Calls PyProof.Rows PySem.W PySem.SeqAt
set_option maxRecDepth 10000
namespace Mine
variable {fx : Fix}
noncomputable def atJ (f : V → V → Option Bool) (xs ys : List V) (j : Nat) : Bool := match xs[j]?, ys[j]? with
  | some u, some v => (f u v).getD false
  | _, _ => true
theorem eqLs_at {f : V → V → Option Bool} : ∀ {xs ys : List V} {r : Bool}, eqLs f xs ys = some r → (∀ (j : Nat) u v, xs[j]? = some u → ys[j]? = some v → f u v = some (atJ f xs ys j)) ∧
    r = ((List.range (min xs.length ys.length)).all (atJ f xs ys) && xs.length == ys.length)
  | [], [], r, e => ⟨fun _ _ _ h => no h, someE e rfl⟩
  | [], y :: ys, r, e => ⟨fun _ _ _ h => no h, someE e (by simp)⟩
  | x :: xs, [], r, e => ⟨fun _ _ _ _ h => no h, someE e (by simp)⟩
  | x :: xs, y :: ys, r, e => by
    refine bindE e fun p h1 e => mapE e fun q h2 => ?_
    obtain ⟨i1, i2⟩ := eqLs_at h2
    have e0 : atJ f (x :: xs) (y :: ys) 0 = p := by show (f x y).getD false = p; rw [h1]; rfl
    refine ⟨fun j u v => match j with
      | 0 => fun hu hv => by rw [e0, ← Option.some.inj hu, ← Option.some.inj hv]; exact h1
      | j + 1 => i1 j u v, ?_⟩
    have : min (x :: xs).length (y :: ys).length = min xs.length ys.length + 1 := by simp
    rw [this, List.range_succ_eq_map, List.all_cons, List.all_map, e0, i2, ← Bool.and_assoc]
    show (p && _ && _) = (p && (List.range (min xs.length ys.length)).all (atJ f xs ys) && _)
    simp
theorem SeqAt.same {k : String} {W : Addr → Prop} {h : Heap} {P Q : List Value → Prop} {c : Value} {r : Prop} (x : SeqAt k W h P c) (y : SeqAt k W h Q c) (z : ∀ l, P l → Q l → r) : r := by
  cases x with
  | mk a its n _ ho hl =>
    cases y with
    | mk _ its' n' _ ho' hl' =>
      rw [ho] at ho'; cases ho'
      exact z _ hl hl'
theorem eqLs_true {f : V → V → Option Bool} (H : ∀ u v r, f u v = some r → ∀ W h c, RepV fx W h u c → RepV fx W h v c → r = true) {W : Addr → Prop} {h : Heap} : ∀ {xs ys : List V} {r : Bool} {cs : List Value}, eqLs f xs ys = some r →
    RepL fx W h xs cs → RepL fx W h ys cs → r = true
  | [], [], r, _, e, _, _ => someE e rfl
  | [], y :: ys, r, _, _, h1, h2 => by cases h1; cases h2
  | x :: xs, [], r, _, _, h1, h2 => by cases h2; cases h1
  | x :: xs, y :: ys, r, _, e, h1, h2 => bindE e fun p k1 e => mapE e fun q k2 => by
    cases h1 with
    | mk c cs a1 a2 =>
      cases h2 with
      | mk _ _ b1 b2 => rw [H _ _ _ k1 W h c a1 b1, eqLs_true H k2 a2 b2]; rfl
theorem arr_inj {a b : List Nat} {t u : Tok} (h : (Value.str ⟨a.toArray⟩ t) = .str ⟨b.toArray⟩ u) : a = b := by
  simp only [Value.str.injEq, Str.mk.injEq] at h
  exact by simpa using h.1
theorem eqA_true {u v : V} {r : Bool} {W h c} (hu : RepV fx W h u c) (hv : RepV fx W h v c) (e : eqA u v = some r) : r = true := by
  cases u with
  | none =>
    cases (hu : c = _)
    cases v with
    | none => exact someE e rfl
    | int j => cases hv
    | _ => exact no e
  | int i =>
    cases hu
    cases v with
    | none => cases hv
    | int j => cases hv; exact someE e (decide_eq_true rfl)
    | _ => exact no e
  | str l =>
    refine mapE e fun m e1 => decide_eq_true ?_
    cases hu with
    | mk t =>
      revert hv
      refine strE (Q := fun v => RepV fx W h v _ → _) e1 fun hv => ?_
      generalize hz : Value.str ⟨l.toArray⟩ t = z at hv
      cases hv with
      | mk t' => exact arr_inj hz
  | _ => exact no e
theorem eqV_true : ∀ (n : Nat) (u v : V) (r : Bool), eqV n u v = some r → ∀ W h c, RepV fx W h u c → RepV fx W h v c → r = true
  | 0, u, v, r, e => fun W h c hu hv => eqA_true hu hv e
  | n + 1, u, v, r, e => fun W h c hu hv => by
    cases u with
    | tup l => refine bindE e fun m e1 e => ?_; revert hv; exact tupO_E (Q := fun v => RepV fx W h v c → _) e1 fun hv => SeqAt.same hu hv fun _ => eqLs_true (eqV_true n) e
    | lst l => refine bindE e fun m e1 e => ?_; revert hv; exact lstE (Q := fun v => RepV fx W h v c → _) e1 fun hv => SeqAt.same hu hv fun _ => eqLs_true (eqV_true n) e
    | _ => exact eqA_true hu hv e
theorem str_beq_cps (a b : List Nat) : ((⟨a.toArray⟩ : Str) == ⟨b.toArray⟩) = decide (a = b) := by
  by_cases h : a = b
  · subst h; simp
  · rw [decide_eq_false h]
    exact beq_eq_false_iff_ne.mpr fun q => h (by simpa using q)
theorem eqA_at {u v : V} {r : Bool} {A : Around} {s : Shared} {W} {a b : Value} (hu : RepV fx W s.heap u a) (hv : RepV fx W s.heap v b) (e : eqA u v = some r) : (RcAt A s a b r ∧ EqAt A s a b r) ∧ RcNeAt A s a b (!r) := by
  cases u with
  | none =>
    cases (hu : a = _)
    cases v with
    | none => cases (hv : b = _); exact someE e ⟨⟨RcAt.none_none, EqAt.same _⟩, RcNeAt.none_none⟩
    | int j => cases hv; exact someE e ⟨⟨RcAt.none_int _ _, EqAt.none_int _ _⟩, RcNeAt.none_int _ _⟩
    | _ => exact no e
  | int i =>
    cases hu
    cases v with
    | none => cases (hv : b = _); exact someE e ⟨⟨RcAt.int_none _ _, EqAt.int_none _ _⟩, RcNeAt.int_none _ _⟩
    | int j => cases hv; exact someE e ⟨⟨RcAt.int_int _ _ _ _, EqAt.int_int _ _ _ _⟩, RcNeAt.int_int _ _ _ _⟩
    | _ => exact no e
  | str l =>
    refine mapE e fun m e1 => ?_
    cases hu
    revert hv
    refine strE (Q := fun v => RepV fx W _ v b → _) e1 fun hv => ?_
    cases hv
    rw [← str_beq_cps]
    exact ⟨⟨RcAt.str_str _ _ _ _, EqAt.str_str _ _ _ _⟩, RcNeAt.str_str _ _ _ _⟩
  | _ => exact no e
noncomputable def EqHolds (fx : Fix) (n : Nat) : Prop := ∀ (u v : V) (r : Bool), eqV n u v = some r → ∀ (A : Around) (s : Shared) W a b, A.units + n + 1 < cLine → RepV fx W s.heap u a → RepV fx W s.heap v b → (RcAt A s a b r ∧ EqAt A s a b r) ∧ RcNeAt A s a b (!r)
theorem its_get {its : Array Value} {j : Nat} (h : j < its.size) {c : Value} (q : its.toList[j]? = some c) : its[j] = c := by
  rw [Array.getElem?_toList, Array.getElem?_eq_getElem h] at q
  exact Option.some.inj q
theorem seq_at {n : Nat} (ih : EqHolds fx n) {A : Around} {s : Shared} {W : Addr → Prop} (hA : A.units + n + 2 < cLine) {xs ys : List V} {its its' : Array Value} {r : Bool} (e : eqLs (eqV n) xs ys = some r) (hl : RepL fx W s.heap xs its.toList) (hl' : RepL fx W s.heap ys its'.toList) :
    (∀ j (h1 : j < its.size) (h2 : j < its'.size), EqAt A.in1 s its[j] its'[j] (atJ (eqV n) xs ys j)) ∧ r = ((List.range (min its.size its'.size)).all (atJ (eqV n) xs ys) && its.size == its'.size) := by
  obtain ⟨e1, e2⟩ := eqLs_at e
  have l1 : its.size = xs.length := its.length_toList.symm.trans hl.length
  have l2 : its'.size = ys.length := its'.length_toList.symm.trans hl'.length
  refine ⟨fun j h1 h2 => ?_, by rw [l1, l2]; exact e2⟩
  have hx : xs[j]? = some (xs[j]'(l1 ▸ h1)) := List.getElem?_eq_getElem _
  have hy : ys[j]? = some (ys[j]'(l2 ▸ h2)) := List.getElem?_eq_getElem _
  obtain ⟨c, q1, q2⟩ := hl.get hx
  obtain ⟨d, q3, q4⟩ := hl'.get hy
  rw [its_get h1 q1, its_get h2 q3]
  exact (ih _ _ _ (e1 j _ _ hx hy) A.in1 s W c d (by simp only [Around.in1_units]; omega) q2 q4).1.2
theorem seq_done {n : Nat} {A : Around} {s : Shared} {W : Addr → Prop} {u v : V} {r : Bool} {l l' : Addr} (e : eqV n u v = some r) (hu : RepV fx W s.heap u (.ref l)) (hv : RepV fx W s.heap v (.ref l')) (R : RcAt A s (.ref l) (.ref l') r) : RcAt A s (.ref l) (.ref l') r ∧ EqAt A s (.ref l) (.ref l') r := by
  refine ⟨R, ?_⟩
  by_cases hll : l = l'
  · subst hll
    rw [eqV_true (fx := fx) n u v r e W s.heap _ hu hv]
    exact EqAt.same _
  · exact EqAt.of_refs hll R
theorem eq_all : ∀ n, EqHolds fx n
  | 0 => fun _ _ _ e _ _ _ _ _ _ hu hv => eqA_at hu hv e
  | n + 1 => fun u v r e A s W a b hA hu hv => by
    cases u with
    | tup xs =>
      refine bindE (b := r) e fun ys e1 e2 => ?_
      revert hv e
      refine tupO_E (Q := fun v => RepV fx W s.heap v b → eqV (n + 1) _ v = some r → _) e1 fun hv e => ?_
      have hu' := hu
      have hv' := hv
      cases hu with
      | mk l its k hW ho hl =>
        cases hv with
        | mk l' its' k' hW' ho' hl' =>
          obtain ⟨q1, q4⟩ := seq_at (eq_all n) (by omega) e2 hl hl'
          refine ⟨seq_done e hu' hv' ?_, ?_⟩ <;> rw [q4]
          · exact RcAt.tuples ⟨_, ho, rfl, k, rfl⟩ ⟨_, ho', rfl, k', rfl⟩ (by omega) q1
          · exact RcNeAt.tuples ⟨_, ho, rfl, k, rfl⟩ ⟨_, ho', rfl, k', rfl⟩ (by omega) q1
    | lst xs =>
      refine bindE (b := r) e fun ys e1 e2 => ?_
      revert hv e
      refine lstE (Q := fun v => RepV fx W s.heap v b → eqV (n + 1) _ v = some r → _) e1 fun hv e => ?_
      have hu' := hu
      have hv' := hv
      cases hu with
      | mk l its k hW ho hl =>
        cases hv with
        | mk l' its' k' hW' ho' hl' =>
          obtain ⟨q1, q4⟩ := seq_at (eq_all n) (by omega) e2 hl hl'
          by_cases hs : its.size = its'.size
          · rw [hs, Nat.min_self, beq_self_eq_true, Bool.and_true, ← hs] at q4
            refine ⟨seq_done e hu' hv' ?_, ?_⟩ <;> rw [q4]
            · exact RcAt.lists ⟨_, ho, rfl, k, rfl⟩ ⟨_, ho', rfl, k', rfl⟩ hs (by omega) q1
            · exact RcNeAt.lists ⟨_, ho, rfl, k, rfl⟩ ⟨_, ho', rfl, k', rfl⟩ hs (by omega) q1
          · rw [beq_false_of_ne hs, Bool.and_false] at q4
            refine ⟨seq_done e hu' hv' ?_, ?_⟩ <;> rw [q4]
            · exact RcAt.lists_lengths ⟨_, ho, rfl, k, rfl⟩ ⟨_, ho', rfl, k', rfl⟩ (by simpa using hs) (by omega)
            · exact RcNeAt.lists_lengths ⟨_, ho, rfl, k, rfl⟩ ⟨_, ho', rfl, k', rfl⟩ (by simpa using hs) (by omega)
    | _ => exact eqA_at hu hv e
end Mine
end
section
open PySem PySem.Calls PyProof.Rows PySem.W PySem.SeqAt
set_option maxRecDepth 10000
namespace Mine
variable {fx : Fix}
theorem strs_in {a : List Nat} {Wl W : Addr → Prop} {h : Heap} : ∀ {l : List V} {ss : List (List Nat)} {cs : List Value}, strsV l = some ss → RepTL fx Wl W h l cs →
    (∀ c ∈ cs, ∃ (x : List Nat) (t : Tok), c = .str ⟨x.toArray⟩ t) ∧ cs.any (fun c : Value => match c with | .str y _ => y == ⟨a.toArray⟩ | _ => false) = ss.any (fun x => decide (x = a))
  | [], ss, cs, e, q => someE e ((q : cs = []) ▸ ⟨fun c hc => (nomatch hc), rfl⟩)
  | v :: l, ss, cs, e, q => q.cons fun c cs hv hl => by
    cases v with
    | str x =>
      refine mapE e fun ss' e' => ?_
      obtain ⟨i1, i2⟩ := strs_in (a := a) e' hl
      cases hv with
      | mk t =>
        refine ⟨fun c hc => ?_, by simp only [List.any_cons, i2, str_beq_cps]⟩
        rcases List.mem_cons.mp hc with rfl | hc
        · exact ⟨_, _, rfl⟩
        · exact i1 c hc
    | _ => exact no e
theorem val_beq (a b : Bool) : ((Value.bool a) == .bool b) = (a == b) := by cases a <;> cases b <;> decide
section
variable {A : Around} {Wl W : Addr → Prop} {s : Shared} {x y : V} {r : Bool} {a b : Value} {Q : Value → Shared → Prop} {E : Value → Shared → Prop}
noncomputable def CmpS (fx : Fix) (A : Around) (s : Shared) (r : Bool) (t : Sem Value) : Prop := ∀ (Q : Value → Shared → Prop) (E : Value → Shared → Prop), Q (.bool r) s → wpAny fx.M A t Q E s
theorem ord_sound {f : Int → Int → Bool} {g : List Nat → List Nat → Option Bool} {t : Value → Value → Sem Value} (H : ∀ i j u v, CmpS fx A s (f i j) (t (.int i u) (.int j v))) (H2 : ∀ i j r u v, g i j = some r → CmpS fx A s r (t (.str ⟨i.toArray⟩ u) (.str ⟨j.toArray⟩ v)))
    (ha : RepT fx Wl W s.heap x a) (hb : RepT fx Wl W s.heap y b) (e : ordV f g x y = some r) : CmpS fx A s r (t a b) := by
  cases x with
  | int i => exact mapE e fun j e1 => ha.int fun u => hb.intO e1 fun v => H i j u v
  | str i => exact bindE e fun j e1 e => ha.str fun u => hb.strO e1 fun v => H2 i j r u v e
  | _ => exact no e
theorem is_sound (ha : RepT fx Wl W s.heap x a) (hb : RepT fx Wl W s.heap y b) (e : isV x y = some r) : CmpS fx A s r (compareOp .Is a b) ∧ CmpS fx A s (!r) (compareOp .IsNot a b) := by
  cases x with
  | none => exact mapE e fun j e1 => (ha : a = .none) ▸ hb.noneO e1 ⟨fun _ _ q => wpAny_is_self rfl q, fun _ _ q => wpAny_isNot_self rfl q⟩
  | bool i => exact mapE e fun j e1 => (ha : a = .bool i) ▸ hb.boolO e1 ⟨fun _ _ q => wpAny_is_plain rfl (by rw [val_beq]; exact q), fun _ _ q => wpAny_isNot_plain rfl (by rw [val_beq]; exact q)⟩
  | int i => exact mapE e fun j e1 => ha.int fun u => hb.noneO e1 ⟨fun _ _ q => wpAny_is_other rfl (by simp) q, fun _ _ q => wpAny_isNot_other rfl (by simp) q⟩
  | str i => exact mapE e fun j e1 => ha.str fun u => hb.noneO e1 ⟨fun _ _ q => wpAny_is_other rfl (by simp) q, fun _ _ q => wpAny_isNot_other rfl (by simp) q⟩
  | _ => exact no e
theorem in_sound (ha : RepT fx Wl W s.heap x a) (hb : RepT fx Wl W s.heap y b) (e : inV x y = some r) : CmpS fx A s r (compareOp .In a b) := by
  refine bindE e fun l e1 e => ha.strO e1 fun t => ?_
  cases y with
  | str m =>
    refine mapE e fun c e2 => hb.str fun u Q E q => PyProof.Rows.in_str ?_
    revert q
    refine oneE e2 fun q => ?_
    rw [StrLaws.found_one]; exact q
  | tup vs =>
    refine mapE e fun ss e' => RepT.seq hb fun p its n hW ho hl Q E q => ?_
    obtain ⟨i1, i2⟩ := strs_in (a := l) e' hl
    refine in_tupleAt (fun c : Value => match c with | .str y _ => y == ⟨l.toArray⟩ | _ => false) ⟨_, ho, rfl, n, rfl⟩ (fun y hy => ?_) ?_
    · obtain ⟨z, t', rfl⟩ := i1 y (Array.mem_toList_iff.mpr hy)
      exact EqAt.str_str _ _ _ _
    · rw [← Array.any_toList, i2]; exact q
  | _ => exact no e
theorem nin_sound (ha : RepT fx Wl W s.heap x a) (hb : RepT fx Wl W s.heap y b) (e : ninV x y = some r) : CmpS fx A s r (compareOp .NotIn a b) := by
  refine bindE e fun l e1 e => ha.strO e1 fun t => bindE e fun m e2 e => hb.strO e2 fun u => mapE e fun c e3 Q E q => PyProof.Rows.notIn_str ?_
  revert q
  refine oneE e3 fun q => ?_
  rw [StrLaws.found_one]; exact q
theorem cmp_all {op : CmpOp} (hA : A.units + 10 < cLine) (H : ∀ b, Wl b → W b) (ha : RepT fx Wl W s.heap x a) (hb : RepT fx Wl W s.heap y b) (e : cmpV op x y = some r) : CmpS fx A s r (compareOp op a b) := by
  cases op with
  | Eq => exact fun Q E q => (eq_all 6 _ _ _ e A s Wl a b (by omega) (RepT.v H _ _ ha) (RepT.v H _ _ hb)).1.1 _ _ _ _ q
  | NotEq => exact mapE e fun r' e Q E q => (eq_all 6 _ _ _ e A s Wl a b (by omega) (RepT.v H _ _ ha) (RepT.v H _ _ hb)).2 _ _ _ _ q
  | Lt => exact ord_sound (t := compareOp .Lt) (fun i j u v Q E q => PyProof.Rows.lt_int q) (fun i j r u v e Q E => someE e fun q => PyProof.Rows.lt_str q) ha hb e
  | LtE => exact ord_sound (t := compareOp .LtE) (fun i j u v Q E q => PyProof.Rows.le_int q) (fun i j r u v e Q E => someE e fun q => PySem.P.le_str q) ha hb e
  | Gt => exact ord_sound (t := compareOp .Gt) (fun i j u v Q E q => PyProof.Rows.gt_int q) (fun i j r u v e => no e) ha hb e
  | GtE => exact ord_sound (t := compareOp .GtE) (fun i j u v Q E q => PyProof.Rows.ge_int q) (fun i j r u v e => no e) ha hb e
  | Is => exact (is_sound ha hb e).1
  | IsNot => exact mapE e fun r' e => (is_sound ha hb e).2
  | In => exact in_sound ha hb e
  | NotIn => exact nin_sound ha hb e
theorem cmp_sound {op : CmpOp} (hA : A.units + 10 < cLine) (H : ∀ b, Wl b → W b) (ha : RepT fx Wl W s.heap x a) (hb : RepT fx Wl W s.heap y b) (e : cmpV op x y = some r) (q : Q (.bool r) s) : wpAny fx.M A (compareOp op a b) Q E s := cmp_all hA H ha hb e Q E q
end
end Mine
end
section
open PySem PySem.Calls PyProof.Rows PySem.W
set_option maxRecDepth 10000
namespace Mine
structure EPost (fx : Fix) (Wl : Addr → Prop) (ow : List (Str × Addr)) (s : Shared) (t : Bool) (v : V) (cv : Value) (s' : Shared) : Prop where
  ext : Ext s s'
  rep : RepB fx t Wl (Wf Wl ow) s'.heap v cv
theorem EPost.v {fx : Fix} {Wl : Addr → Prop} {ow : List (Str × Addr)} {s s' : Shared} {v : V} {cv : Value} (x : Ext s s') (h : RepV fx (Wf Wl ow) s'.heap v cv) : EPost fx Wl ow s false v cv s' := ⟨x, h⟩
structure TPost (b : Bool) (s : Shared) (b' : Bool) (s' : Shared) : Prop where
  eq : b' = b
  ext : Ext s s'
structure UPost (fx : Fix) (env : Env) (c : Cx) (Wl : Addr → Prop) (ow : List (Str × Addr)) (ρ : Rho) (s s' : Shared) : Prop where
  stp : Stp env ow ow s s'
  fr : FR fx env c Wl ow ρ s'.heap
structure Snd (fx : Fix) (r : Evs) (n : Nat) : Prop where
  E : ∀ {A : Around} {env : Env} {c : Cx} {Wl : Addr → Prop} {ow : List (Str × Addr)} {ρ : Rho} {e : Expr} {t : Bool} {v : V} {s : Shared}, Room A n → FR fx env c Wl ow ρ s.heap → r.E c ρ e = some (t, v) →
    ∀ X, wpAny fx.M A (eval e env) (EPost fx Wl ow s t v) X s
  T : ∀ {A : Around} {env : Env} {c : Cx} {Wl : Addr → Prop} {ow : List (Str × Addr)} {ρ : Rho} {e : Expr} {t b : Bool} {s : Shared}, Room A n → FR fx env c Wl ow ρ s.heap → r.E c ρ e = some (t, .bool b) →
    ∀ X, wpAny fx.M A (isTrue e env (eval e env)) (TPost b s) X s
  U : ∀ {A : Around} {env : Env} {c : Cx} {Wl : Addr → Prop} {ow : List (Str × Addr)} {ρ : Rho} {elt : Expr} {gs : List Comprehension} {sc : Scope} {pos : Pos} {t : Bool} {v : V} {x : Str} {p : Pos} {s : Shared}, Room A n → FR fx env c Wl ow ρ s.heap → r.E c ρ (.ListComp elt gs sc pos) = some (t, v) → okK c x = true →
    ∀ X, wpAny fx.M A (evalThenUse (.ListComp elt gs sc pos) env (assign (.Name x p) env)) (fun _ s' => UPost fx env c Wl ow (upd ρ x (.val v)) s s') X s
theorem ifT {A B : Prop} (h : A) : if true = true then A else B := (if_pos rfl).symm ▸ h
theorem ifF {A B : Prop} (h : B) : if false = true then A else B := (if_neg Bool.false_ne_true).symm ▸ h
@[elab_as_elim] theorem f0E {o : Option V} {t : Bool} {v : V} {Q : Bool → V → Prop} (h : o.map f0 = some (t, v)) (k : ∀ w, o = some w → Q false w) : Q t v := mapP h k
section
variable {fx : Fix} {r : Evs} {n : Nat} {A : Around} {env : Env} {c : Cx} {Wl : Addr → Prop} {ow : List (Str × Addr)} {ρ : Rho} {s : Shared} {X : Value → Shared → Prop}
theorem RepB.f {Wl W : Addr → Prop} {h : Heap} {v : V} {c : Value} (x : RepV fx W h v c) : RepB fx false Wl W h v c := x
theorem RepB.bool {t : Bool} {Wl W : Addr → Prop} {h : Heap} {b : Bool} {c : Value} (x : RepB fx t Wl W h (.bool b) c) : c = .bool b := match t, x with
  | true, x => x
  | false, x => x
theorem Snd.ev (S : Snd fx r n) (R : Room A n) (F : FR fx env c Wl ow ρ s.heap) {a : Expr} {t : Bool} {v : V} {Q : Value → Shared → Prop} (e : r.E c ρ a = some (t, v)) (k : ∀ cv s₁, Ext s s₁ → FR fx env c Wl ow ρ s₁.heap → RepT fx Wl (Wf Wl ow) s₁.heap v cv → Q cv s₁) : wpAny fx.M A (eval a env) Q X s :=
  wm (S.E R F e X) fun cv s₁ h => k cv s₁ h.1 (F.ext h.1) (h.2.t F.wl)
theorem Snd.evB (S : Snd fx r n) (R : Room A n) (F : FR fx env c Wl ow ρ s.heap) {a : Expr} {t : Bool} {v : V} {Q : Value → Shared → Prop} (e : r.E c ρ a = some (t, v)) (k : ∀ cv s₁, Ext s s₁ → FR fx env c Wl ow ρ s₁.heap → RepB fx t Wl (Wf Wl ow) s₁.heap v cv → Q cv s₁) : wpAny fx.M A (eval a env) Q X s :=
  wm (S.E R F e X) fun cv s₁ h => k cv s₁ h.1 (F.ext h.1) h.2
theorem pureI {e : Expr} {v : V} (h : pureE r c ρ e = some v) : r.E c ρ e = some (false, v) := bindP h fun t w e1 h => by
  cases t with
  | true => exact no h
  | false => exact e1.trans (someE (Q := fun v => some (false, w) = some (false, v)) h rfl)
theorem tstI {e : Expr} {b : Bool} {P : Prop} (h : tstE r c ρ e = some b) (k : ∀ t, r.E c ρ e = some (t, .bool b) → P) : P := bindP h fun t w e1 h => k t (boolE_ (Q := fun w => r.E c ρ e = some (t, w) → _) h id e1)
theorem Snd.evV (S : Snd fx r n) (R : Room A n) (F : FR fx env c Wl ow ρ s.heap) {a : Expr} {v : V} {Q : Value → Shared → Prop} (e : pureE r c ρ a = some v) (k : ∀ cv s₁, Ext s s₁ → FR fx env c Wl ow ρ s₁.heap → RepV fx (Wf Wl ow) s₁.heap v cv → Q cv s₁) : wpAny fx.M A (eval a env) Q X s :=
  S.evB R F (pureI e) k
theorem Snd.tst (S : Snd fx r n) (R : Room A n) (F : FR fx env c Wl ow ρ s.heap) {a : Expr} {b : Bool} {Q : Bool → Shared → Prop} (e : tstE r c ρ a = some b) (k : ∀ s₁, Ext s s₁ → FR fx env c Wl ow ρ s₁.heap → Q b s₁) : wpAny fx.M A (isTrue a env (eval a env)) Q X s :=
  tstI e fun t e => wm (S.T R F e X) fun b' s₁ h => h.1.symm ▸ k s₁ h.2 (F.ext h.2)
theorem Snd.evT (S : Snd fx r n) (R : Room A n) (F : FR fx env c Wl ow ρ s.heap) {a : Expr} {b : Bool} {Q : Value → Shared → Prop} (e : tstE r c ρ a = some b) (k : ∀ s₁, Ext s s₁ → FR fx env c Wl ow ρ s₁.heap → Q (.bool b) s₁) : wpAny fx.M A (eval a env) Q X s :=
  tstI e fun t e => S.evB R F e fun cv s₁ x F1 h => h.bool.symm ▸ k s₁ x F1
theorem kind_ne (F : FR fx env c Wl ow ρ s.heap) {x : Str} {k : NameKind} (h : env.kindOf x = some k) : (x == ("__debug__" : Str)) = false := by
  cases q : (x == ("__debug__" : Str)) with
  | false => rfl
  | true =>
    have e : x = ("__debug__" : Str) := eq_of_beq q
    unfold Env.kindOf at h
    rw [e, F.names, F.nodbg] at h
    cases h
theorem name_at (F : FR fx env c Wl ow ρ s.heap) {x : Str} {v : Value} (a : At env s.heap x v) {pos : Pos} {Q : Value → Shared → Prop} (q : Q v s) : wpAny fx.M A (eval (.Name x pos) env) Q X s := by
  cases a with
  | loc m h1 h2 h3 => exact wpAny_Name (wpAny_loadName_local F.kind h1 h2 h3 q) (kind_ne F h1)
  | cell a h1 h2 h3 => exact wpAny_Name (wpAny_loadName_cell F.kind h1 h2 h3 q) (kind_ne F h1)
theorem e_const {k : Const} {kd : Nat} {pos : Pos} {v : V} (e : constV k = some v) : wpAny fx.M A (eval (.Constant k kd pos) env) (EPost fx Wl ow s false v) X s := by
  cases k with
  | none => exact someE e (wpAny_pure (.v (.refl _) none_v))
  | bool b => exact someE e (wpAny_pure (.v (.refl _) bool_v))
  | int i => exact someE e (wpAny_Constant_int (.v .tok int_v))
  | str t => exact someE e (Constant_str (.v .tok str_v))
  | _ => exact no e
theorem e_name (F : FR fx env c Wl ow ρ s.heap) {x : Str} {pos : Pos} {t : Bool} {v : V} (e : (find ρ x).bind bdE = some (t, v)) :
    wpAny fx.M A (eval (.Name x pos) env) (EPost fx Wl ow s t v) X s := by
  refine bindE e fun b q e => ?_
  cases b with
  | val u => exact match F.bind x _ q with | .mk cv h1 h2 => someP e (name_at F h1 ⟨.refl _, h2⟩)
  | own u =>
    refine match F.bind x _ q with | .mk a h1 h2 h3 => iteN e fun _ e => someP e (name_at F h2 ⟨.refl _, ?_⟩)
    cases u with
    | lst l => exact match h3 with | .mk its k q1 q2 => .mk a its k (F.owl _ h1) q1 q2
    | obj ns vs => cases ‹isObj _ = false›
    | _ => exact h3.elim
theorem e_bin (S : Snd fx r n) (R : Room A n) (F : FR fx env c Wl ow ρ s.heap) {a b : Expr} {op : Operator} {pos : Pos} {v : V} (e : binE r c ρ a op b = some v) :
    wpAny fx.M A (eval (.BinOp a op b pos) env) (EPost fx Wl ow s false v) X s :=
  bindP e fun _ _ e1 e => bindP e fun _ _ e2 e => wpAny_BinOp (S.ev R F e1 fun _ _ x1 F1 h1 => S.ev R F1 e2 fun _ _ x2 F2 h2 =>
    wm (bin_sound F2.freshSize (RepT.keeps x2.keep _ _ h1) h2 e X) fun _ _ h3 => ⟨(x1.trans x2).trans h3.1, h3.2⟩)
theorem e_un (S : Snd fx r n) (R : Room A n) (F : FR fx env c Wl ow ρ s.heap) {a : Expr} {op : UnaryOp} {pos : Pos} {v : V} (e : unE r c ρ op a = some v) :
    wpAny fx.M A (eval (.UnaryOp op a pos) env) (EPost fx Wl ow s false v) X s := by
  cases op with
  | Not => exact mapE e fun b e => wpAny_UnaryOp (S.evT R F e fun s₁ x F1 => not_of (wpAny_truthy_bool (.v x bool_v)))
  | USub => exact bindP e fun t w e1 e => wpAny_UnaryOp (S.ev R F e1 fun cv s₁ x F1 h => mapE e fun i e2 => h.intO e2 fun t => PyProof.Rows.neg_int (.v (x.trans .tok) int_v))
  | _ => exact no e
theorem t_not (S : Snd fx r n) (R : Room A n) (F : FR fx env c Wl ow ρ s.heap) {a : Expr} {pos : Pos} {b : Bool} {whole : Sem Value} (e : tstE r c ρ a = some b) :
    wpAny fx.M A (isTrue (.UnaryOp .Not a pos) env whole) (TPost (!b) s) X s := isTrue_not (S.tst R F e fun _ x _ => ⟨rfl, x⟩)
theorem e_ite (S : Snd fx r n) (R : Room A n) (F : FR fx env c Wl ow ρ s.heap) {a b d : Expr} {pos : Pos} {t : Bool} {v : V}
    (e : ((tstE r c ρ a).bind fun x => if x then r.E c ρ b else r.E c ρ d) = some (t, v)) :
    wpAny fx.M A (eval (.IfExp a b d pos) env) (EPost fx Wl ow s t v) X s :=
  bindE e fun u e1 e => wpAny_IfExp (S.tst R F e1 fun _ x F1 => match u, e with
    | true, e => ifT (wm (S.E R F1 e X) fun _ _ h2 => ⟨x.trans h2.1, h2.2⟩)
    | false, e => ifF (wm (S.E R F1 e X) fun _ _ h2 => ⟨x.trans h2.1, h2.2⟩))
theorem t_ite (S : Snd fx r n) (R : Room A n) (F : FR fx env c Wl ow ρ s.heap) {a b d : Expr} {pos : Pos} {t u : Bool} {whole : Sem Value}
    (e : ((tstE r c ρ a).bind fun x => if x then r.E c ρ b else r.E c ρ d) = some (t, .bool u)) :
    wpAny fx.M A (isTrue (.IfExp a b d pos) env whole) (TPost u s) X s :=
  bindE e fun u e1 e => isTrue_IfExp (S.tst R F e1 fun _ x F1 => match u, e with
    | true, e => ifT (wm (S.T R F1 e X) fun _ _ h2 => ⟨h2.1, x.trans h2.2⟩)
    | false, e => ifF (wm (S.T R F1 e X) fun _ _ h2 => ⟨h2.1, x.trans h2.2⟩))
theorem e_bools (S : Snd fx r n) (R : Room A n) {op : BoolOp} {pos : Pos} : ∀ {es : List Expr} {s : Shared} {b : Bool}, FR fx env c Wl ow ρ s.heap → boolE r c ρ op es = some b →
    wpAny fx.M A (eval (.BoolOp op es pos) env) (EPost fx Wl ow s false (.bool b)) X s
  | [], _, _, _, e => no e
  | [x], s, b, F, e => bindE e fun b' e1 e => someE e (BoolOp_one (S.evT R F e1 fun _ x _ => (.v x bool_v)))
  | x :: y :: es, s, b, F, e => bindE e fun b' e1 e => match op, b', e1, e with
    | .And, true, e1, e => BoolOp_and (S.evT R F e1 fun _ x F1 => wpAny_truthy_bool (ifT (wm (e_bools S R F1 e) fun _ _ h2 => ⟨x.trans h2.1, h2.2⟩)))
    | .And, false, e1, e => BoolOp_and (S.evT R F e1 fun _ x F1 => wpAny_truthy_bool (ifF (someE e (.v x bool_v))))
    | .Or, true, e1, e => BoolOp_or (S.evT R F e1 fun _ x F1 => wpAny_truthy_bool (ifT (someE e (.v x bool_v))))
    | .Or, false, e1, e => BoolOp_or (S.evT R F e1 fun _ x F1 => wpAny_truthy_bool (ifF (wm (e_bools S R F1 e) fun _ _ h2 => ⟨x.trans h2.1, h2.2⟩)))
theorem t_bools (S : Snd fx r n) (R : Room A n) {op : BoolOp} {pos : Pos} {whole : Sem Value} : ∀ {es : List Expr} {s : Shared} {b : Bool}, FR fx env c Wl ow ρ s.heap → boolE r c ρ op es = some b →
    wpAny fx.M A (isTrue (.BoolOp op es pos) env whole) (TPost b s) X s
  | [], _, _, _, e => no e
  | [x], s, b, F, e => bindE e fun b' e1 e => someE e (match op, b', e1 with
    | .And, true, e1 => isTrue_and (S.tst R F e1 fun _ x F1 => ifT (isTrue_and_nil ⟨rfl, x⟩))
    | .And, false, e1 => isTrue_and (S.tst R F e1 fun _ x F1 => ifF ⟨rfl, x⟩)
    | .Or, true, e1 => isTrue_or (S.tst R F e1 fun _ x F1 => ifT ⟨rfl, x⟩)
    | .Or, false, e1 => isTrue_or (S.tst R F e1 fun _ x F1 => ifF (isTrue_or_nil ⟨rfl, x⟩)))
  | x :: y :: es, s, b, F, e => bindE e fun b' e1 e => match op, b', e1, e with
    | .And, true, e1, e => isTrue_and (S.tst R F e1 fun _ x F1 => ifT (wm (t_bools S R F1 e) fun _ _ h2 => ⟨h2.1, x.trans h2.2⟩))
    | .And, false, e1, e => isTrue_and (S.tst R F e1 fun _ x F1 => ifF (someE e ⟨rfl, x⟩))
    | .Or, true, e1, e => isTrue_or (S.tst R F e1 fun _ x F1 => ifT (someE e ⟨rfl, x⟩))
    | .Or, false, e1, e => isTrue_or (S.tst R F e1 fun _ x F1 => ifF (wm (t_bools S R F1 e) fun _ _ h2 => ⟨h2.1, x.trans h2.2⟩))
end
end Mine
end
section
open PySem PySem.Calls PyProof.Rows PySem.W
set_option maxRecDepth 10000
namespace Mine
section
variable {fx : Fix} {r : Evs} {n : Nat} {A : Around} {env : Env} {c : Cx} {Wl W : Addr → Prop} {ow : List (Str × Addr)} {ρ : Rho} {s : Shared} {X : Value → Shared → Prop}
theorem idxAt_cases {k : Nat} {i : Int} {j : Nat} (e : idxAt k i = some j) : smallI i = true ∧ ((0 ≤ i ∧ i < k ∧ j = i.toNat) ∨ (i < 0 ∧ 0 ≤ i + k ∧ j = (i + k).toNat)) := by
  unfold idxAt at e
  split at e
  · cases e
  · rename_i h0
    refine ⟨by simpa using h0, ?_⟩
    split at e
    · split at e
      · cases e; exact .inl ⟨by assumption, by assumption, rfl⟩
      · cases e
    · split at e
      · cases e; exact .inr ⟨by omega, by assumption, rfl⟩
      · cases e
theorem idxAt_seq {k : Nat} {i : Int} {j : Nat} (e : idxAt k i = some j) : smallI i = true ∧ seqIndex? i k = some j ∧ j < k := by
  obtain ⟨h, ⟨h1, h2, rfl⟩ | ⟨h1, h2, rfl⟩⟩ := idxAt_cases e
  · exact ⟨h, seqIndex_of h1 h2, by omega⟩
  · exact ⟨h, MeetsSeq.seqIndex_neg h1 h2, by omega⟩
theorem subscripted_plain {i : Expr} (h : sliceO i = none) (o v : Value) : subscripted i false o v = operate [o, v] (getItem o v) := by
  cases i with
  | Slice => cases h
  | _ => rfl
theorem arr_get {α : Type} {its : Array α} {j : Nat} {c : α} (h : its.toList[j]? = some c) : its[j]? = some c := by rwa [Array.getElem?_toList] at h
theorem sub_tail (H : ∀ b, Wl b → W b) {value slice : Expr} {x y z : V} {t : Bool} {a b : Value} (hs : sliceO slice = none) (ha : RepB fx t Wl W s.heap x a) (hb : RepT fx Wl W s.heap y b) (e : subV x y = some z)
    {Q : Value → Shared → Prop} (k : ∀ cv s', Ext s s' → RepB fx (tupT x t) Wl W s'.heap z cv → Q cv s') : wpAny fx.M A (subscriptTail value slice a b) Q X s := by
  refine bindE e fun i e0 e => hb.intO e0 fun w => ?_
  cases x with
  | str l =>
    refine bindE e fun j e1 e2 => mapE e2 (Q := fun z => (∀ cv s', Ext s s' → RepB fx false Wl W s'.heap z cv → Q cv s') → _) (fun ch e3 k => ?_) k
    obtain ⟨h1, h2, h3⟩ := idxAt_seq e1
    have h1 := smallI_iff h1
    refine (ha.t H).str fun u => tail_any (typeIs_str _ _ _) PyProof.Rows.slot_str_getitem.lookup (P.getItem_str ?_ (c := ch) ?_ (k _ _ .tok (.mk _))) (subscripted_plain hs _ _)
    · simp only [Bool.or_eq_false_iff, decide_eq_false_iff_not]; omega
    · rw [show (⟨l.toArray⟩ : Str).length = l.length from rfl, h2]
      exact List.getElem?_toArray.trans e3
  | tup l =>
    refine bindE e fun j e1 e2 => ?_
    obtain ⟨h1, h2, h3⟩ := idxAt_seq e1
    have h1 := smallI_iff h1
    have fin : ∀ p its n cv, s.heap.get? p = some { cls := .type "tuple", data := .seq its n } → its.size = l.length → its.toList[j]? = some cv → Q cv s → wpAny fx.M A (subscriptTail value slice (.ref p) (.int i w)) Q X s := fun p its n cv ho z1 q1 q =>
      tail_any ⟨_, ho, rfl⟩ PyProof.Rows.slot_tuple_getitem.lookup (P.getItem_tuple ho (by omega) (by omega) (by rw [z1]; exact h2) (arr_get q1) q) (subscripted_plain hs _ _)
    cases t with
    | true => exact RepT.seq ha fun p its n hW ho hl => let ⟨cv, q1, q2⟩ := hl.get e2; fin p its n cv ho (its.length_toList.symm.trans hl.length) q1 (k _ _ (.refl _) q2)
    | false => exact RepT.seq ha fun p its n hW ho hl => let ⟨cv, q1, q2⟩ := hl.get e2; fin p its n cv ho (its.length_toList.symm.trans hl.length) q1 (k _ _ (.refl _) q2)
  | lst l =>
    refine bindE e fun j e1 e2 => (ha.t H).lst fun p its n ho hl z1 => ?_
    obtain ⟨cv, q1, q2⟩ := hl.get e2
    have q1 := arr_get q1
    refine tail_any ⟨_, ho, rfl⟩ PySem.F.slot_list_getitem.lookup ?_ (subscripted_plain hs _ _)
    obtain ⟨hs, ⟨h0, hz, rfl⟩ | ⟨h0, hz, rfl⟩⟩ := idxAt_cases e1
    · exact wpAny_getItem_list ⟨_, ho, rfl, n, rfl⟩ h0 (by have := smallI_iff hs; omega) q1 (k _ _ (.refl _) q2)
    · exact wpAny_getItem_list_neg ⟨_, ho, rfl, n, rfl⟩ h0 (by rw [z1]; omega) (by have := smallI_iff hs; omega) (by rw [z1]; exact q1) (k _ _ (.refl _) q2)
  | _ => exact no e
theorem e_sub (S : Snd fx r n) (R : Room A n) (F : FR fx env c Wl ow ρ s.heap) {a i : Expr} {pos : Pos} {t : Bool} {v : V} (hi : sliceO i = none) (e : idxE r c ρ a i = some (t, v)) :
    wpAny fx.M A (eval (.Subscript a i pos) env) (EPost fx Wl ow s t v) X s :=
  bindP e fun _ _ e1 e => bindP e fun _ _ e2 e => mapP e fun _ e3 => Subscript_ (S.evB R F e1 fun _ _ x1 F1 h1 => S.ev R F1 e2 fun _ _ x2 F2 h2 =>
    sub_tail F.wl hi (h1.keeps x2.keep) h2 e3 fun _ _ x3 h3 => ⟨(x1.trans x2).trans x3, h3⟩)
theorem pick_run {α : Type} (xs : Array α) (a : Nat) : ∀ m, a + m ≤ xs.size → ((List.range m).map (fun k => a + k)).filterMap (xs[·]?) = (xs.toList.drop a).take m
  | 0, _ => by simp
  | m + 1, h => by
    have h1 : xs[a + m]? = some (xs[a + m]'(by omega)) := Array.getElem?_eq_getElem (by omega)
    rw [List.range_succ, List.map_append, List.filterMap_append, pick_run xs a m (by omega), List.map_singleton, List.take_add_one]
    simp only [List.filterMap_cons, List.filterMap_nil, h1, List.getElem?_drop, Array.getElem?_toList, Option.toList_some]
theorem range_pick {α : Type} (xs : Array α) (a b : Nat) (hb : b ≤ xs.size) : (sliceRange (a : Int) (b : Int) 1).filterMap (xs[·]?) = (xs.toList.take b).drop a := by
  have key : sliceRange (a : Int) (b : Int) 1 = (List.range (if (a : Int) < b then ((b : Int) - a + 1 - 1) / 1 else 0).toNat).map (fun k : Nat => ((a : Int) + 1 * (k : Int)).toNat) := rfl
  rw [key]
  by_cases h : (a : Int) < b
  · rw [if_pos h]
    have h1 : (((b : Int) - a + 1 - 1) / 1).toNat = b - a := by omega
    have h2 : ((List.range (b - a)).map fun k : Nat => ((a : Int) + 1 * (k : Int)).toNat) = (List.range (b - a)).map (fun k => a + k) := by
      apply List.map_congr_left
      intro k _
      omega
    rw [h1, h2, pick_run xs a (b - a) (by omega), List.drop_take]
  · rw [if_neg h]
    have : (xs.toList.take b).drop a = [] := by
      apply List.drop_eq_nil_of_le
      simp only [List.length_take, Array.length_toList]
      omega
    rw [this]
    rfl
theorem clip_is (n : Nat) (lo hi : Option Int) (st : Option Int) (h : st = none ∨ ∃ k, st = some k ∧ 0 < k) : sliceBounds lo hi st n = ((((lo.map (clampI n)).getD 0 : Nat) : Int), (((hi.map (clampI n)).getD n : Nat) : Int), st.getD 1) := by
  have hk : 0 < st.getD 1 := by rcases h with rfl | ⟨k, rfl, hk⟩ <;> simp_all
  have key : ∀ i : Int, max 0 (min (if i < 0 then i + n else i) n) = (clampI n i : Int) := by
    intro i
    unfold clampI
    split
    · rename_i h
      rw [Int.ofNat_toNat, Int.min_eq_left (by omega), Int.max_comm]
    · rename_i h
      have h := Int.not_lt.mp h
      rw [Int.max_eq_right (Int.le_min.mpr ⟨h, Int.natCast_nonneg n⟩)]; omega
  unfold sliceBounds
  dsimp only
  rw [if_pos hk, if_pos hk]
  cases lo <;> cases hi <;> simp [hk, key]
theorem RepL.pick {W : Addr → Prop} {h : Heap} {vs : List V} {cs : List Value} (is : List Nat) (x : RepL fx W h vs cs) : RepL fx W h (is.filterMap (vs[·]?)) (is.filterMap (cs[·]?)) := by
  induction is with
  | nil => exact rfl
  | cons i is ih =>
    rw [List.filterMap_cons, List.filterMap_cons]
    cases q : vs[i]? with
    | none => rw [show cs[i]? = none by rw [List.getElem?_eq_none_iff] at q ⊢; rw [x.length]; exact q]; exact ih
    | some v =>
      obtain ⟨c, q1, q2⟩ := x.get q
      rw [q1]
      exact .mk c _ q2 ih
end
end Mine
end
section
open PySem PySem.Calls PyProof.Rows PySem.W
set_option maxRecDepth 10000
namespace Mine
section
variable {fx : Fix} {r : Evs} {n : Nat} {A : Around} {env : Env} {c : Cx} {Wl W : Addr → Prop} {ow : List (Str × Addr)} {ρ : Rho} {s : Shared} {X : Value → Shared → Prop}
noncomputable def PartR (W : Addr → Prop) (fx : Fix) (Wl : Addr → Prop) (h : Heap) : Option V → Value → Prop
  | none, c => c = .none
  | some v, c => RepT fx Wl W h v c
theorem PartR.keeps {W Wl : Addr → Prop} {h h' : Heap} {v : Option V} {c : Value} (x : PartR W fx Wl h v c) (k : Kp h h') : PartR W fx Wl h' v c := match v, x with
  | none, x => x
  | some v, x => RepT.keeps k _ _ x
theorem PartR.isPart {W Wl : Addr → Prop} {h : Heap} {v : Option V} {c : Value} {b : Option Int} (x : PartR W fx Wl h v c) (e : boundV v = some b) : ∃ l : Option (Int × Tok), c = partValue l ∧ l.map (·.1) = b ∧ IsPart c b := by
  cases v with
  | none => exact (x : c = .none) ▸ someE e ⟨none, rfl, rfl, .none⟩
  | some v => exact bindE e fun i e1 e => iteY e fun _ e => RepT.intO e1 x fun t => someE e ⟨some (_, t), rfl, rfl, .int _ _⟩
theorem e_part (S : Snd fx r n) (R : Room A n) (F : FR fx env c Wl ow ρ s.heap) {x : Option Expr} {a : Option V} {Q : Value → Shared → Prop} (e : evOpt r c ρ x = some a) (k : ∀ cv s', Ext s s' → FR fx env c Wl ow ρ s'.heap → x.isSome = a.isSome → PartR (Wf Wl ow) fx Wl s'.heap a cv → Q cv s') :
    wpAny fx.M A (evalPart x env) Q X s := by
  cases x with
  | none => revert k; exact someE e fun k => wpAny_pure (k _ _ (.refl _) F rfl rfl)
  | some x => revert k; exact mapE e fun p e1 k => S.ev R F (t := p.1) (v := p.2) e1 fun cv s₁ x F h => k cv s₁ x F rfl h
theorem clampI_le' (n : Nat) (i : Int) : clampI n i ≤ n := by
  unfold clampI
  split <;> omega
theorem cut_of {α : Type} (xs : Array α) (lo hi : Option Int) : (sliceRange (((lo.map (clampI xs.size)).getD 0 : Nat) : Int) (((hi.map (clampI xs.size)).getD xs.size : Nat) : Int) 1).filterMap (xs[·]?) = cutL xs.toList lo hi := by
  rw [range_pick]
  · simp only [cutL, Array.length_toList]
  · cases hi with
    | none => exact Nat.le_refl _
    | some i => exact clampI_le' _ i
theorem str_idx (lo hi : Option Int) (n : Nat) : Builtin.Str.strSliceIndices lo hi 1 n = sliceRange (((lo.map (clampI n)).getD 0 : Nat) : Int) (((hi.map (clampI n)).getD n : Nat) : Int) 1 := by
  have h := clip_is n lo hi none (.inl rfl)
  unfold sliceBounds at h
  simp only [Prod.mk.injEq] at h
  unfold Builtin.Str.strSliceIndices
  dsimp only
  rw [← h.1, ← h.2.1]
  rfl
theorem RepL.cut {W : Addr → Prop} {h : Heap} {vs : List V} {cs : List Value} (lo hi : Option Int) (x : RepL fx W h vs cs) : RepL fx W h (cutL vs lo hi) (cutL cs lo hi) := by
  unfold cutL
  rw [x.length]
  exact (x.take _).drop _
theorem sliced_is (lo hi st : Option Expr) (p : Pos) (a b : Value) : ∃ ops, subscripted (.Slice lo hi st p) false a b = operate ops (getItem a b) := by
  cases st <;> exact ⟨_, rfl⟩
theorem cut_whole {l : List Nat} {bl bu : Option Int} (h : (sliceRange (((bl.map (clampI l.length)).getD 0 : Nat) : Int) (((bu.map (clampI l.length)).getD l.length : Nat) : Int) 1).length = l.length) : cutL l bl bu = l := by
  have h3 : (cutL l bl bu).length = l.length := by
    have := cut_of l.toArray bl bu
    rw [List.size_toArray] at this
    have e : cutL l bl bu = (sliceRange (((bl.map (clampI l.length)).getD 0 : Nat) : Int) (((bu.map (clampI l.length)).getD l.length : Nat) : Int) 1).filterMap (l.toArray[·]?) := this.symm
    simp only [cutL, List.length_drop, List.length_take]
    unfold sliceRange at h
    simp only [Int.one_mul, Int.ediv_one, gt_iff_lt, Int.zero_lt_one, ↓reduceIte, List.length_map, List.length_range] at h
    have hb : ((bu.map (clampI l.length)).getD l.length) ≤ l.length := by
      cases bu with
      | none => exact Nat.le_refl _
      | some i => exact clampI_le' _ i
    generalize (bl.map (clampI l.length)).getD 0 = a at h ⊢
    generalize (bu.map (clampI l.length)).getD l.length = b at h hb ⊢
    split at h <;> omega
  unfold cutL at h3 ⊢
  dsimp only at h3 ⊢
  simp only [List.length_drop, List.length_take] at h3
  generalize (bl.map (clampI l.length)).getD 0 = a at h3 ⊢
  generalize (bu.map (clampI l.length)).getD l.length = b at h3 ⊢
  cases l with
  | nil => simp
  | cons x l =>
    simp only [List.length_cons] at h3
    have ha : a = 0 := by omega
    rw [ha, List.drop_zero, List.take_of_length_le (by simp only [List.length_cons]; omega)]
theorem slice_tail (H : ∀ b, Wl b → W b) {value : Expr} {lo hi st : Option Expr} {p : Pos} {x z : V} {pl pu ps : Option V} {a vl vu vs : Value} {Q : Value → Shared → Prop} (hf : ¬ W (s.heap.objs.size + 1)) (ha : RepT fx Wl W s.heap x a)
    (hl : PartR W fx Wl s.heap pl vl) (hu : PartR W fx Wl s.heap pu vu) (hs : PartR W fx Wl s.heap ps vs) (e : sliceV x pl pu ps = some z) (k : ∀ cv s', Ext s s' → RepV fx W s'.heap z cv → Q cv s') :
    wpAny fx.M A (subscriptTail value (.Slice lo hi st p) a (.ref s.heap.objs.size)) Q X { s with heap := s.heap.push { cls := .type "slice", data := .fields #[vl, vu, vs] } } := by
  refine bindE e fun bl e1 e => bindE e fun bu e2 e3 => ?_
  obtain ⟨tl, q1, q2, q3⟩ := hl.isPart e1
  obtain ⟨tu, r1, r2, r3⟩ := hu.isPart e2
  have hsl := Heap.IsSliceOf.new s.heap vl vu vs
  have kp : Kp s.heap (s.heap.push { cls := .type "slice", data := .fields #[vl, vu, vs] }) := Kp.push
  cases x with
  | str l =>
    refine iteY e3 fun hn e3 => andE hn fun hn1 hn => ?_
    have hn := lenOk_iff hn
    have hs : vs = .none := by
      cases ps with
      | none => exact hs
      | some _ => cases hn1
    subst hs
    refine RepT.str ha fun t => tail_any (typeIs_str _ _ _) PyProof.Rows.slot_str_getitem.lookup ?_ (sliced_is ..).choose_spec
    obtain ⟨o, ho, hc, hd⟩ := hsl
    refine wpAny_getItem_str_slice (l := tl) (u := tu) (st := none) ⟨o, ho, hc, by rw [hd, q1, r1]; rfl⟩ rfl ?_
    have hp0 : slicePicked (⟨l.toArray⟩ : Str) tl tu none = sliceRange (((bl.map (clampI l.length)).getD 0 : Nat) : Int) (((bu.map (clampI l.length)).getD l.length : Nat) : Int) 1 := by
      unfold slicePicked
      rw [q2, r2]
      exact str_idx bl bu l.length
    have hp : (slicePicked (⟨l.toArray⟩ : Str) tl tu none).filterMap ((⟨l.toArray⟩ : Str).cps[·]?) = cutL l bl bu := by
      rw [hp0]
      exact cut_of l.toArray bl bu
    revert k
    refine someE e3 fun k => ?_
    unfold sliceMade
    split
    · rename_i hw
      refine k _ _ (.heap kp) ?_
      have hw := eq_of_beq (Bool.and_eq_true_iff.mp hw).2
      rw [hp0] at hw
      rw [cut_whole hw]
      exact str_v
    · refine ⟨?_, k _ _ (.heap kp) ?_⟩
      · rw [hp]
        simp only [Str.length, List.size_toArray, sizeLine, cutL, List.length_drop, List.length_take]
        omega
      · rw [hp]; exact str_v
  | lst l =>
    refine iteY e3 fun hn e3 => RepT.lst ha fun q its n ho hl z1 => ?_
    have hn := lenOk_iff hn
    refine tail_any ⟨_, kp _ _ ho, rfl⟩ PySem.F.slot_list_getitem.lookup ?_ (sliced_is ..).choose_spec
    have hsz : its.size ≤ sizeLine := by rw [z1]; simp only [sizeLine]; omega
    have hf : ¬ W (s.heap.push { cls := .type "slice", data := .fields #[vl, vu, vs] }).objs.size := by rw [Heap.size_push]; exact hf
    cases ps with
    | none =>
      have hip : IsPart vs none := (show vs = .none from hs) ▸ .none
      revert k
      refine someE e3 fun k => wpAny_getItem_list_slice ⟨_, kp _ _ ho, rfl, n, rfl⟩ hsl q3 r3 hip (by simp) (k _ _ ((Ext.heap kp).trans .push) (lst_new hf ?_)) hsz
      have hp : (slicePick its bl bu none).toList = cutL its.toList bl bu := by
        unfold slicePick
        rw [clip_is its.size bl bu none (.inl rfl)]
        exact cut_of its bl bu
      rw [hp]
      exact (hl.cut bl bu).keeps kp
    | some w =>
      refine bindE e3 fun i e4 e5 => iteY e5 fun hi e5 => andE hi fun hi _ => ?_
      have hi := decT hi
      have hip : IsPart vs (some i) := RepT.intO e4 hs fun tk => .int i tk
      revert k
      refine someE e5 fun k => wpAny_getItem_list_slice ⟨_, kp _ _ ho, rfl, n, rfl⟩ hsl q3 r3 hip (by simp; omega) (k _ _ ((Ext.heap kp).trans .push) (lst_new hf ?_)) hsz
      unfold slicePick
      rw [clip_is its.size bl bu (some i) (.inr ⟨_, rfl, by omega⟩), z1]
      have := (hl.pick (sliceRange (((bl.map (clampI l.length)).getD 0 : Nat) : Int) (((bu.map (clampI l.length)).getD l.length : Nat) : Int) i)).keeps kp
      simp only [Array.getElem?_toList] at this
      exact this
  | _ => exact no e3
theorem e_slice (S : Snd fx r n) (R : Room A n) (F : FR fx env c Wl ow ρ s.heap) {a : Expr} {lo hi st : Option Expr} {p pos : Pos} {v : V} (e : cutE r c ρ a lo hi st = some v) :
    wpAny fx.M A (eval (.Subscript a (.Slice lo hi st p) pos) env) (EPost fx Wl ow s false v) X s := by
  refine bindE e fun x e1 e => bindE e fun pl e2 e => bindE e fun pu e3 e => bindE e fun ps e4 e5 => Subscript_ (S.ev R F (t := x.1) (v := x.2) e1 fun cv s₁ x1 F1 h1 => wpAny_Slice (e_part S R F1 e2 fun vl s₂ x2 F2 _ h2 => e_part S R F2 e3 fun vu s₃ x3 F3 _ h3 => e_part S R F3 e4 fun vs s₄ x4 F4 _ h4 => ?_))
  have x34 := x3.trans x4
  have x24 := x2.trans x34
  exact slice_tail F4.wl (fun q => let ⟨o, ho⟩ := F4.alloc _ q; Nat.lt_irrefl _ (Nat.lt_of_succ_lt (Heap.lt_size ho))) (RepT.keeps x24.keep _ _ h1) (h2.keeps x34.keep) (h3.keeps x4.keep) h4 e5 fun w s₅ x5 h5 => ⟨(x1.trans x24).trans x5, h5⟩
end
end Mine
end
section
open PySem PySem.Calls PyProof.Rows PySem.W
set_option maxRecDepth 10000
namespace Mine
section
variable {fx : Fix} {r : Evs} {n : Nat} {A : Around} {env : Env} {c : Cx} {Wl W : Addr → Prop} {ow : List (Str × Addr)} {ρ : Rho} {s : Shared} {X : Value → Shared → Prop}
noncomputable def RepLB (fx : Fix) (t : Bool) (Wl W : Addr → Prop) (h : Heap) (vs : List V) (cs : List Value) : Prop := match t with
  | true => RepTL fx Wl W h vs cs
  | false => RepL fx W h vs cs
theorem RepLB.t {b : Bool} {h : Heap} {v : List V} {c : List Value} (x : RepLB fx b Wl W h v c) (H : ∀ b, Wl b → W b) : RepTL fx Wl W h v c := match b, x with
  | true, x => x
  | false, x => RepL.t H _ _ x
theorem RepLB.cons {t u : Bool} {h : Heap} {v : V} {c : Value} {vs : List V} {cs : List Value} (H : ∀ b, Wl b → W b) (x : RepB fx t Wl W h v c) (y : RepLB fx u Wl W h vs cs) : RepLB fx (t || u) Wl W h (v :: vs) (c :: cs) := match t, u, x, y with
  | true, _, x, y => .mk c cs x (y.t H)
  | false, true, x, y => .mk c cs (RepV.t H _ _ x) y
  | false, false, x, y => .mk c cs x y
theorem starEach_plain {e : Expr} {es : List Expr} (h : isStar e = false) : starEach (e :: es) env = (false, eval e env) :: starEach es env := by
  cases e with
  | Starred => cases h
  | _ => rfl
@[elab_as_elim] theorem evLE {e : Expr} {es : List Expr} {t : Bool} {vs : List V} {Q : Bool → List V → Prop} (h : evL r c ρ (e :: es) = some (t, vs)) (k : ∀ t1 v t2 us, isStar e = false → r.E c ρ e = some (t1, v) → evL r c ρ es = some (t2, us) → Q (t1 || t2) (v :: us)) : Q t vs :=
  iteN h fun hs h => bindE h fun p e1 h => mapP h fun q e2 => k p.1 p.2 q.1 q.2 hs e1 e2
theorem e_list (S : Snd fx r n) (R : Room A n) {pos : Pos} : ∀ {es : List Expr} {s : Shared} {t : Bool} {vs : List V} {Q : List Value → Shared → Prop}, FR fx env c Wl ow ρ s.heap → evL r c ρ es = some (t, vs) →
    (∀ cvs s', Ext s s' → FR fx env c Wl ow ρ s'.heap → RepLB fx t Wl (Wf Wl ow) s'.heap vs cvs → Q cvs s') → wpAny fx.M A (spliced (backTo pos (starEach es env))) Q X s
  | [], s, t, vs, Q, F, e => someP (Q := fun t vs => (∀ cvs s', Ext s s' → FR fx env c Wl ow ρ s'.heap → RepLB fx t Wl (Wf Wl ow) s'.heap vs cvs → Q cvs s') → _) e fun k => spliced_nil (k _ _ (.refl _) F rfl)
  | x :: es, s, t, vs, Q, F, e => evLE (Q := fun t vs => (∀ cvs s', Ext s s' → FR fx env c Wl ow ρ s'.heap → RepLB fx t Wl (Wf Wl ow) s'.heap vs cvs → Q cvs s') → _) e fun t1 v t2 us hs e1 e2 k => by
    rw [starEach_plain hs]
    exact spliced_cons (S.evB R F e1 fun cv s₁ x1 F1 h1 => e_list S R F1 e2 fun cvs s₂ x2 F2 h2 => k _ _ (x1.trans x2) F2 (.cons F.wl (h1.keeps x2.keep) h2))
theorem RepLB.length {t : Bool} {h : Heap} {vs : List V} {cs : List Value} (x : RepLB fx t Wl W h vs cs) (H : ∀ b, Wl b → W b) : cs.length = vs.length := (x.t H).length
theorem lenOk_le {k : Nat} (h : lenOk k = true) : k ≤ sizeLine := Nat.le_trans (lenOk_iff h) (by decide)
theorem lisI {es : List Expr} {vs : List V} (e : lisE r c ρ es = some vs) : evL r c ρ es = some (false, vs) ∧ lenOk vs.length = true := bindE e fun p e1 e => iteN e fun h e => orN h fun h1 h2 => someE e ⟨e1.trans (by rw [← h1]), notN h2⟩
theorem e_List (S : Snd fx r n) (R : Room A n) (F : FR fx env c Wl ow ρ s.heap) {es : List Expr} {pos : Pos} {vs : List V} {Q : Value → Shared → Prop} (e : lisE r c ρ es = some vs)
    (k : ∀ its s₁, Ext s s₁ → FR fx env c Wl ow ρ s₁.heap → RepL fx (Wf Wl ow) s₁.heap vs its.toList → Q (.ref s₁.heap.objs.size) { s₁ with heap := s₁.heap.push { cls := .type "list", data := .seq its } }) :
    wpAny fx.M A (eval (.List es pos) env) Q X s := by
  rw [arm_eval_List]
  exact wpAny_bind (wpAny_standAt (wpAny_bind (e_list S R F (lisI e).1 fun cvs s₁ x1 F1 h1 => wpAny_newList (k cvs.toArray s₁ x1 F1 h1) (by rw [RepL.length h1]; exact lenOk_le (lisI e).2))))
theorem e_List' (S : Snd fx r n) (R : Room A n) (F : FR fx env c Wl ow ρ s.heap) {es : List Expr} {pos : Pos} {vs : List V} (e : lisE r c ρ es = some vs) :
    wpAny fx.M A (eval (.List es pos) env) (EPost fx Wl ow s false (.lst vs)) X s :=
  e_List S R F e fun its s₁ x1 F1 hl => .v (x1.trans .push) (lst_new F1.freshSize hl)
theorem e_Tuple (S : Snd fx r n) (R : Room A n) (F : FR fx env c Wl ow ρ s.heap) {es : List Expr} {k : Nat} {pos : Pos} {t : Bool} {v : V} (e : tupE r c ρ es = some (t, v)) :
    wpAny fx.M A (eval (.Tuple es k pos) env) (EPost fx Wl ow s t v) X s := by
  rw [arm_eval_Tuple]
  refine bindE e fun p e1 e => iteY e fun hz e => someP e (wpAny_bind (wpAny_standAt (wpAny_bind (e_list S R F (t := p.1) (vs := p.2) e1 fun cvs s₁ x1 F1 h1 => wpAny_newTuple ⟨x1.trans .push, ?_⟩ (by rw [h1.length F.wl]; exact lenOk_le hz)))))
  have hf := F1.freshSize
  revert h1
  cases p.1 with
  | false => exact fun h1 => tup_new hf h1
  | true => exact fun h1 => .mk _ _ 0 (fun q => hf (.inl q)) (Heap.get?_push_size _ rfl) (RepTL.keeps Kp.push _ _ h1)
theorem Room.u {A : Around} {n : Nat} (R : Room A n) : A.units + 10 < cLine := by
  have := R.units
  have : cLine = 9900 := rfl
  omega
theorem e_chain (S : Snd fx r n) (R : Room A n) {pos : Pos} {b : Bool} : ∀ {ops : List CmpOp} {es : List Expr} {s : Shared} {x : V} {a : Value}, ops.length = es.length → FR fx env c Wl ow ρ s.heap → RepT fx Wl (Wf Wl ow) s.heap x a → chainE r c ρ x ops es = some b →
    wpAny fx.M A (compareChain pos a ops (evalEach es env)) (EPost fx Wl ow s false (.bool b)) X s
  | [], _, _, _, _, _, _, _, e => no e
  | _ :: _, [], _, _, _, _, _, _, e => no e
  | [op], [y], s, x, a, _, F, ha, e => bindP e fun t w e1 e => bindE e fun b1 e2 e => someE e (chain_last (S.ev R F e1 fun cv s₁ x1 F1 h1 => cmp_sound R.u F.wl (RepT.keeps x1.keep _ _ ha) h1 e2 (.v x1 bool_v)))
  | [op], _ :: _ :: _, _, _, _, h, _, _, _ => nomatch h
  | op :: op' :: ops, [y], _, _, _, h, _, _, _ => nomatch h
  | op :: op' :: ops, y :: y' :: es, s, x, a, h, F, ha, e => bindP e fun t w e1 e => bindE e fun b1 e2 e => chain_link (S.ev R F e1 fun cv s₁ x1 F1 h1 => cmp_sound R.u F.wl (RepT.keeps x1.keep _ _ ha) h1 e2 (wpAny_truthy_bool (match b1, e with
    | true, e => ifT (wm (e_chain S R (Nat.succ.inj h) F1 h1 e) fun cv s₂ h2 => ⟨x1.trans h2.1, h2.2⟩)
    | false, e => ifF (someE e (.v x1 bool_v)))))
end
end Mine
end
section
open PySem PySem.Calls PyProof.Rows PySem.W
set_option maxRecDepth 10000
namespace Mine
section
variable {fx : Fix} {r : Evs} {n : Nat} {A : Around} {env : Env} {c : Cx} {Wl W : Addr → Prop} {ow : List (Str × Addr)} {ρ : Rho} {s : Shared} {X : Value → Shared → Prop}
theorem t_chain (S : Snd fx r n) (R : Room A n) {pos : Pos} {b : Bool} : ∀ {ops : List CmpOp} {es : List Expr} {s : Shared} {x : V} {a : Value}, ops.length = es.length → FR fx env c Wl ow ρ s.heap → RepT fx Wl (Wf Wl ow) s.heap x a → chainE r c ρ x ops es = some b →
    wpAny fx.M A (testChain pos a ops (evalEach es env)) (TPost b s) X s
  | [], _, _, _, _, _, _, _, e => no e
  | _ :: _, [], _, _, _, _, _, _, e => no e
  | [op], [y], s, x, a, _, F, ha, e => bindP e fun t w e1 e => bindE e fun b1 e2 e => someE e (test_last (S.ev R F e1 fun cv s₁ x1 F1 h1 => cmp_sound R.u F.wl (RepT.keeps x1.keep _ _ ha) h1 e2 (wpAny_truthy_bool ⟨rfl, x1⟩)))
  | [op], _ :: _ :: _, _, _, _, h, _, _, _ => nomatch h
  | op :: op' :: ops, [y], _, _, _, h, _, _, _ => nomatch h
  | op :: op' :: ops, y :: y' :: es, s, x, a, h, F, ha, e => bindP e fun t w e1 e => bindE e fun b1 e2 e => test_link (S.ev R F e1 fun cv s₁ x1 F1 h1 => cmp_sound R.u F.wl (RepT.keeps x1.keep _ _ ha) h1 e2 (wpAny_truthy_bool (match b1, e with
    | true, e => ifT (wm (t_chain S R (Nat.succ.inj h) F1 h1 e) fun cv s₂ h2 => ⟨h2.1, x1.trans h2.2⟩)
    | false, e => ifF (someE e ⟨rfl, x1⟩))))
theorem t_plain {e : Expr} {t u : Bool} (h : wpAny fx.M A (eval e env) (EPost fx Wl ow s t (.bool u)) X s)
    (he : isTrue e env (eval e env) = (do let v ← eval e env; standAt e.pos; holding [v] (truthy v))) :
    wpAny fx.M A (isTrue e env (eval e env)) (TPost u s) X s :=
  isTrue_plain (wm h fun cv s₁ h1 => h1.2.bool.symm ▸ wpAny_truthy_bool ⟨rfl, h1.1⟩) he
end
end Mine
end
section
open PySem PySem.Calls PyProof.Rows PySem.W
set_option maxRecDepth 10000
namespace Mine
structure FnAt (fx : Fix) (a : Addr) (g : Fn) : Prop where
  ex : ∃ o fd, fx.K.lookup a = some o ∧ o.data = .func fd ∧ fd.body = .stmts g.body ∧ fd.scope = g.scope ∧ fd.closure = [] ∧ fd.globals = mainGlobals ∧ fd.builtins = builtinsNs ∧
    (∀ vals : List Value, vals.length = g.names.length → bindArgs fd ⟨vals, []⟩ = pure (g.names.zip vals)) ∧ (∀ h, fx.K.In h → h.CodeRec fd.code fd.qualname)
  keep : keepIn fx.K (.ref a) = true
  ok : namesOk g = true
inductive RetAt (P : Value → Prop) : Flow → Prop
  | mk (c : Value) : P c → RetAt P (.ret c)
noncomputable def FlR (fx : Fix) (Wl : Addr → Prop) (ow : List (Str × Addr)) (h : Heap) : Fl → Flow → Prop
  | .next, f => f = .next
  | .brk, f => f = .brk
  | .cont, f => f = .cont
  | .ret v, f => RetAt (RepT fx Wl (Wf Wl ow) h v) f
inductive SPost (fx : Fix) (env : Env) (c : Cx) (Wl : Addr → Prop) (ow : List (Str × Addr)) (ρ' : Rho) (fl : Fl) (s : Shared) (f : Flow) (s' : Shared) : Prop
  | mk (ow' : List (Str × Addr)) : Stp env ow ow' s s' → FR fx env c Wl ow' ρ' s'.heap → FlR fx Wl ow' s'.heap fl f → SPost fx env c Wl ow ρ' fl s f s'
structure SndX (fx : Fix) (r : Evs) (n : Nat) : Prop extends Snd fx r n where
  X : ∀ {A : Around} {env : Env} {c : Cx} {Wl : Addr → Prop} {ow : List (Str × Addr)} {ρ ρ' : Rho} {body : List Stmt} {fl : Fl} {s : Shared}, Room A n → FR fx env c Wl ow ρ s.heap → r.X c ρ body = some (fl, ρ') →
    ∀ X, wpAny fx.M A (execs body env) (SPost fx env c Wl ow ρ' fl s) X s
  F0 : ∀ {f : Str} {vs : List V} {v : V}, r.F f vs = some v → ∃ fv, fx.mg f = some fv ∧ keepIn fx.K fv = true
  F : ∀ {A : Around} {W : Addr → Prop} {f : Str} {vs : List V} {cs : List Value} {v : V} {s : Shared} {fv : Value}, Room A n → Gd fx W s.heap → RepL fx W s.heap vs cs → r.F f vs = some v → fx.mg f = some fv →
    ∀ X, wpAny fx.M A (call fv cs) (VPost fx W s v) X s
  M0 : ∀ {m : Str} {u : V} {vs : List V} {v : V}, r.M m u vs = some v → fldNames.contains m = false ∧ ∃ fa, findIn fx.K (.ref fx.C) m = some (some (.ref fa)) ∧ isFn fx.K (.ref fa) = true ∧ keepIn fx.K (.ref fa) = true
  M : ∀ {A : Around} {W : Addr → Prop} {m : Str} {u : V} {vs : List V} {cu : Value} {cs : List Value} {v : V} {s : Shared} {fa : Addr}, Room A n → Gd fx W s.heap → RepV fx W s.heap u cu → RepL fx W s.heap vs cs → r.M m u vs = some v → findIn fx.K (.ref fx.C) m = some (some (.ref fa)) →
    ∀ X, wpAny fx.M A (call (.ref fa) (cu :: cs)) (VPost fx W s v) X s
theorem lookup_mem {α : Type} : ∀ {l : List (Str × α)} {n : Str} {c : α}, (l.map (·.1)).Nodup → (n, c) ∈ l → l.lookup n = some c
  | (k, v) :: r, n, c, hn, h => by
    rw [List.lookup_cons]
    simp only [List.map_cons, List.nodup_cons] at hn
    rcases List.mem_cons.mp h with e | h
    · cases e; simp
    · have : ¬ n = k := fun e => hn.1 (List.mem_map.mpr ⟨(n, c), h, e⟩)
      have : (n == k) = false := by simpa using this
      rw [this]; exact lookup_mem hn.2 h
theorem cells_names : ∀ (names : List (Str × NameKind)) (k : Nat) (acc : List (Str × Addr)) (x : Str) (b : Addr), (x, b) ∈ cellsFrom k names acc → (x, b) ∈ acc ∨ (x, NameKind.cell) ∈ names
  | [], _, _, _, _, h => .inl h
  | (n, kd) :: r, k, acc, x, b, h => by
    unfold cellsFrom at h
    split at h
    · rename_i hk
      rcases cells_names r _ _ x b h with q | q
      · rcases List.mem_cons.mp q with e | q
        · cases e; exact .inr (by rw [beq_iff_eq.mp hk]; exact List.mem_cons_self)
        · exact .inl q
      · exact .inr (List.mem_cons_of_mem _ q)
    · rcases cells_names r _ _ x b h with q | q
      · exact .inl q
      · exact .inr (List.mem_cons_of_mem _ q)
theorem cells_nodup : ∀ (names : List (Str × NameKind)) (k : Nat) (acc : List (Str × Addr)), (names.map (·.1)).Nodup → (acc.map (·.1)).Nodup → (∀ x ∈ acc, x.1 ∉ names.map (·.1)) → ((cellsFrom k names acc).map (·.1)).Nodup
  | [], _, _, _, h, _ => h
  | (n, kd) :: r, k, acc, hn, ha, hd => by
    simp only [List.map_cons, List.nodup_cons] at hn
    unfold cellsFrom
    split
    · refine cells_nodup r _ _ hn.2 ?_ ?_
      · simp only [List.map_cons, List.nodup_cons]
        refine ⟨fun q => ?_, ha⟩
        obtain ⟨p, hp, e⟩ := List.mem_map.mp q
        exact hd p hp (by rw [e]; simp)
      · intro x hx
        rcases List.mem_cons.mp hx with e | hx
        · subst e; exact hn.1
        · exact fun q => hd x hx (by rw [List.map_cons]; exact List.mem_cons_of_mem _ q)
    · exact cells_nodup r _ _ hn.2 ha fun x hx q => hd x hx (by rw [List.map_cons]; exact List.mem_cons_of_mem _ q)
theorem cells_acc : ∀ (names : List (Str × NameKind)) (k : Nat) (acc : List (Str × Addr)) (p : Str × Addr), p ∈ acc → p ∈ cellsFrom k names acc
  | [], _, _, _, h => h
  | (n, kd) :: r, k, acc, p, h => by
    unfold cellsFrom
    split
    · exact cells_acc r _ _ p (List.mem_cons_of_mem _ h)
    · exact cells_acc r _ _ p h
theorem cells_some : ∀ (names : List (Str × NameKind)) (k : Nat) (acc : List (Str × Addr)) (x : Str), (x, NameKind.cell) ∈ names → ∃ b, (x, b) ∈ cellsFrom k names acc
  | (n, kd) :: r, k, acc, x, h => by
    unfold cellsFrom
    rcases List.mem_cons.mp h with e | h
    · cases e
      rw [if_pos (by rfl)]
      exact ⟨k, cells_acc r _ _ _ List.mem_cons_self⟩
    · split
      · exact cells_some r _ _ x h
      · exact cells_some r _ _ x h
theorem bindL_none {ko : Str → Option NameKind} : ∀ (l : List (Str × Value)) (m : Str → Option Value) (x : Str), x ∉ l.map (·.1) → bindL ko l m x = m x
  | [], _, _, _ => rfl
  | (n, v) :: r, m, x, h => by
    simp only [List.map_cons, List.mem_cons, not_or] at h
    unfold bindL
    rw [bindL_none r _ x h.2]
    split
    · exact if_neg h.1
    · rfl
theorem bindC_none {ko : Str → Option NameKind} : ∀ (l : List (Str × Value)) (m : Str → Option Value) (x : Str), x ∉ l.map (·.1) → bindC ko l m x = m x
  | [], _, _, _ => rfl
  | (n, v) :: r, m, x, h => by
    simp only [List.map_cons, List.mem_cons, not_or] at h
    unfold bindC
    rw [bindC_none r _ x h.2]
    split
    · rfl
    · exact if_neg h.1
theorem bindL_at {ko : Str → Option NameKind} : ∀ (l : List (Str × Value)) (m : Str → Option Value) (x : Str) (v : Value), (l.map (·.1)).Nodup → l.lookup x = some v → ko x = some .local → bindL ko l m x = some v
  | (n, u) :: r, m, x, v, hn, h, hk => by
    simp only [List.map_cons, List.nodup_cons] at hn
    rw [List.lookup_cons] at h
    unfold bindL
    cases q : x == n with
    | true =>
      have := eq_of_beq q; subst this
      rw [q] at h; cases h
      rw [bindL_none r _ x hn.1, if_pos hk]; simp
    | false => rw [q] at h; exact bindL_at r _ x v hn.2 h hk
theorem bindC_at {ko : Str → Option NameKind} : ∀ (l : List (Str × Value)) (m : Str → Option Value) (x : Str) (v : Value), (l.map (·.1)).Nodup → l.lookup x = some v → ko x ≠ some .local → bindC ko l m x = some v
  | (n, u) :: r, m, x, v, hn, h, hk => by
    simp only [List.map_cons, List.nodup_cons] at hn
    rw [List.lookup_cons] at h
    unfold bindC
    cases q : x == n with
    | true =>
      have := eq_of_beq q; subst this
      rw [q] at h; cases h
      rw [bindC_none r _ x hn.1, if_neg hk]; simp
    | false => rw [q] at h; exact bindC_at r _ x v hn.2 h hk
theorem zip_find {fx : Fix} {W : Addr → Prop} {h : Heap} {vs : List V} {cs : List Value} {x : Str} {b : Bd} (hl : RepL fx W h vs cs) {names : List Str} (e : find (names.zip (vs.map Bd.val)) x = some b) : ∃ v c, b = .val v ∧ (names.zip cs).lookup x = some c ∧ RepV fx W h v c := by
  refine hl.ind (P := fun vs cs => ∀ names : List Str, find (names.zip (vs.map Bd.val)) x = some b → ∃ v c, b = .val v ∧ (names.zip cs).lookup x = some c ∧ RepV fx W h v c) (fun names e => ?_) (fun v c vs cs hv _ ih names e => ?_) names e
  · rw [List.map_nil, List.zip_nil_right] at e; exact no e
  · cases names with
    | nil => exact no e
    | cons n ns =>
      show ∃ v c_1, b = .val v ∧ (match x == n with | true => some c | false => (ns.zip cs).lookup x) = some c_1 ∧ _
      have e : (match x == n with | true => some (Bd.val v) | false => find (ns.zip (vs.map Bd.val)) x) = some b := e
      revert e
      cases x == n with
      | true => exact fun e => ⟨v, c, (Option.some.inj e).symm, rfl, hv⟩
      | false => exact ih ns
theorem zip_names {α β : Type} : ∀ {names : List α} {cs : List β}, cs.length = names.length → (names.zip cs).map (·.1) = names
  | [], [], _ => rfl
  | n :: ns, c :: cs, h => by simp [zip_names (names := ns) (cs := cs) (by simpa using h)]
  | [], _ :: _, h => by cases h
  | _ :: _, [], h => by cases h
noncomputable def WlOf (W : Addr → Prop) (env : Env) (b : Addr) : Prop := W b ∨ Ws env b
section
variable {fx : Fix} {r : Evs} {n : Nat} {A : Around} {W : Addr → Prop}
structure NOk (f : Fn) : Prop where
  k1 : (f.scope.names.map (·.1)).Nodup
  k2 : f.names.Nodup
  k3 : f.scope.names.lookup ("__debug__" : Str) = none
  k4 : ∀ x ∈ f.names, f.scope.names.lookup x = some .local ∨ f.scope.names.lookup x = some .cell
  k5 : f.scope.isCoroutine = false
  k6 : f.scope.isGenerator = false
  k7 : f.scope.kind = .function
theorem nok {f : Fn} (ok : namesOk f = true) : NOk f :=
  andE ok fun ok k7 => andE ok fun ok k6 => andE ok fun ok k5 => andE ok fun ok k4 => andE ok fun ok k3 => andE ok fun k1 k2 =>
  ⟨decT k1, decT k2, Option.isNone_iff_eq_none.mp k3, fun x hx => (Bool.or_eq_true_iff.mp (List.all_eq_true.mp k4 x hx)).imp eq_of_beq eq_of_beq, notT k5, notT k6, eq_of_beq k7⟩
theorem enter_fr {g : Fn} {fd : FuncData} {a : Addr} {vs : List V} {cs : List Value} {s s₁ : Shared} (hs : fd.scope = g.scope) (hg : fd.globals = mainGlobals) (hb : fd.builtins = builtinsNs) (ok : namesOk g = true)
    (B : Gd fx W s.heap) (hl : RepL fx W s.heap vs cs) (hn : cs.length = g.names.length)
    (I : InCallC s (callEnvC fd s.heap.objs.size a).locals (bindL (callEnvC fd s.heap.objs.size a).kindOf (g.names.zip cs) fun _ => none) (callEnvC fd s.heap.objs.size a).cells (bindC (callEnvC fd s.heap.objs.size a).kindOf (g.names.zip cs) fun _ => none) s₁) :
    FR fx (callEnvC fd s.heap.objs.size a) (fnCx g) (WlOf W (callEnvC fd s.heap.objs.size a)) [] (g.names.zip (vs.map Bd.val)) s₁.heap := by
  have ⟨k1, k2, k3, k4, k5, k6, k7⟩ := nok ok
  have hk : (callEnvC fd s.heap.objs.size a).kindOf = fun x => g.scope.names.lookup x := by funext x; show fd.scope.names.lookup x = _; rw [hs]
  have hc : (callEnvC fd s.heap.objs.size a).cells = cellsFrom (s.heap.objs.size + 1) g.scope.names [] := by show cellsFrom _ fd.scope.names [] = _; rw [hs]
  have nd : ((callEnvC fd s.heap.objs.size a).cells.map (·.1)).Nodup := by rw [hc]; exact cells_nodup _ _ _ k1 List.nodup_nil (fun _ h => (nomatch h))
  have keep := I.toInCall.keep
  have fresh : ∀ b o, s.heap.get? b = some o → ¬ Ws (callEnvC fd s.heap.objs.size a) b := fun b o e q => by
    have h0 := Heap.lt_size e
    rcases q with q | ⟨x, q⟩
    · exact Nat.lt_irrefl _ (show s.heap.objs.size < s.heap.objs.size from (show b = s.heap.objs.size from q) ▸ h0)
    · exact Nat.lt_irrefl _ (Nat.lt_trans h0 (I.above x b q))
  refine ⟨?_, ?_, k3, hg, hb, ⟨B.b0, fun b o e => ⟨?_, keep _ _ (B.old b o e).2⟩, ?_⟩, ⟨_, I.toInCall.ns⟩, fun x c h => ⟨_, I.cell x c (lookup_mem nd h)⟩, fun x q => ?_, I.apart, fun x c h => Nat.ne_of_gt (I.above x c h), fun b h => .inr h, List.nodup_nil, fun _ h => (nomatch h), ?_⟩
  · show fd.scope.kind = _; rw [hs]; exact k7
  · show fd.scope.names = _; rw [hs]; rfl
  · intro q
    rcases q with (q | q) | ⟨x, q⟩
    · exact (B.old b o e).1 q
    · exact fresh b o (B.old b o e).2 q
    · cases q
  · intro b q
    rcases q with (q | q | ⟨x, q⟩) | ⟨x, q⟩
    · obtain ⟨o, e⟩ := B.alloc b q
      exact ⟨o, keep _ _ e⟩
    · subst q; obtain ⟨o, _, _, ho, _⟩ := I.toInCall.ns; exact ⟨o, ho⟩
    · obtain ⟨o, ho, _⟩ := I.cell x b (lookup_mem nd q); exact ⟨o, ho⟩
    · cases q
  · obtain ⟨a', ha⟩ := cells_some g.scope.names (s.heap.objs.size + 1) [] x (mem_of_lookup q)
    rw [← hc] at ha
    exact ⟨a', lookup_mem nd ha⟩
  · intro x b e
    obtain ⟨v, c, rfl, e1, e2⟩ := zip_find hl e
    have nz : ((g.names.zip cs).map (·.1)).Nodup := by rw [zip_names hn]; exact k2
    have hx : x ∈ g.names := by
      have := mem_of_lookup e1
      exact (List.of_mem_zip this).1
    refine ⟨c, ?_, e2.move fx (fun b o hb he => ⟨fun q => ?_, keep b o he⟩)⟩
    · rcases k4 x hx with q | q
      · exact .loc _ (by rw [hk]; exact q) I.toInCall.ns (bindL_at _ _ _ _ nz e1 (by rw [hk]; exact q))
      · obtain ⟨a', ha⟩ := cells_some g.scope.names (s.heap.objs.size + 1) [] x (mem_of_lookup q)
        rw [← hc] at ha
        have hcl := lookup_mem nd ha
        refine .cell a' (by rw [hk]; exact q) hcl ?_
        have := I.cell x a' hcl
        rwa [bindC_at _ _ _ _ nz e1 (by rw [hk]; simp only [q]; decide)] at this
    · rcases q with (q | q) | ⟨_, q⟩
      · exact hb q
      · exact fresh b o he q
      · cases q
theorem call_fn (S : SndX fx r n) (R : Room A (n + 1)) {a : Addr} {g : Fn} (f : FnAt fx a g) {s : Shared} {vs : List V} {cs : List Value} {v : V} {ρ' : Rho} (B : Gd fx W s.heap) (hl : RepL fx W s.heap vs cs)
    (hn : vs.length = g.names.length) (e : r.X (fnCx g) (g.names.zip (vs.map Bd.val)) g.body = some (.ret v, ρ')) {X : Value → Shared → Prop} :
    wpAny fx.M A (call (.ref a) cs) (VPost fx W s v) X s := by
  obtain ⟨⟨o, fd, h1, h2, h3, h4, h5, h6, h7, h8, h9⟩, hk, ok⟩ := f
  have hn' : cs.length = g.names.length := hl.length.trans hn
  have ⟨k1, k2, k3, k4, k5, k6, k7⟩ := nok ok
  refine wpAny_call (codeAny_call_cells (o := o) (fd := fd) (body := g.body) (binds := g.names.zip cs) ?_ (B.base.X a o h1) h2 B.base.nolimit (h9 _ B.base.X) h3 (h8 _ hn') h5 ?_ ?_ (by rw [h4]; exact k5) (by rw [h4]; exact k6) (by rw [h4]; exact k7))
  · have := R.depth
    have : recursionLimit = 1000 := rfl
    omega
  · intro x hx
    rw [h4]
    have hx' : x.1 ∈ g.names := (List.of_mem_zip hx).1
    rcases k4 _ hx' with q | q
    · exact .inl q
    · refine .inr ⟨q, ?_⟩
      obtain ⟨b, hb⟩ := cells_some g.scope.names (s.heap.objs.size + 1) [] x.1 (mem_of_lookup q)
      rw [lookup_mem (cells_nodup g.scope.names (s.heap.objs.size + 1) [] k1 List.nodup_nil (fun _ h => (nomatch h))) hb]; rfl
  · intro s₁ I
    have F := enter_fr h4 h6 h7 ok B hl hn' I
    have R' : Room (A.deeper (callEnvC fd s.heap.objs.size a)) n := by
      refine ⟨?_, ?_, R.handled⟩
      · have := R.depth; show A.depth + 1 + n ≤ 900; omega
      · have := R.units; show A.units + 3 + 20 * n ≤ 9000; omega
    refine wpAny_mono (S.X R' F e _) (fun fl s₂ h => ?_) (fun _ _ h => h)
    obtain ⟨ow', st, F', fl'⟩ := h
    obtain ⟨c, hc⟩ := fl'
    have q := RepT.v F'.wl _ _ hc
    obtain ⟨h', tk, rfl, kp⟩ := I.done
    refine ⟨⟨fun b o e => ?_, st.gens, st.bare, st.os⟩, q.anti fun b hb => .inl hb⟩
    refine st.keep b o (fun q => ?_) (kp b o e)
    have h0 := Heap.lt_size e
    rcases q with (q | ⟨x, q⟩) | ⟨x, q⟩
    · exact Nat.lt_irrefl _ (show s.heap.objs.size < s.heap.objs.size from (show b = s.heap.objs.size from q) ▸ h0)
    · exact Nat.lt_irrefl _ (Nat.lt_trans h0 (I.above x b q))
    · cases q
end
end Mine
end
section
open PySem PySem.Calls PyProof.Rows PySem.W
set_option maxRecDepth 10000
namespace Mine
section
variable {fx : Fix} {A : Around} {Wl W : Addr → Prop} {s : Shared} {X : Value → Shared → Prop}
theorem ints_items {h : Heap} : ∀ {vs : List V} {cs : List Value} {xs : List Int}, RepL fx W h vs cs → intsV vs = some xs → ∃ ts : List (Int × Tok), cs = ts.map (fun p => Value.int p.1 p.2) ∧ ts.map (·.1) = xs
  | [], cs, xs, hl, e => (hl : cs = []) ▸ someE e ⟨[], rfl, rfl⟩
  | v :: vs, cs, xs, h0, e => h0.cons fun c cs hv hl => by
    clear h0
    cases v with
    | int i =>
      refine mapE e fun ys e1 => ?_
      obtain ⟨ts, rfl, q⟩ := ints_items hl e1
      cases hv with
      | mk t => exact ⟨(_, t) :: ts, rfl, by rw [← q]; rfl⟩
    | _ => exact no e
theorem sumV_ints : ∀ {vs : List V} {i : Int}, sumV vs = some i → ∃ xs, intsV vs = some xs ∧ i = xs.sum
  | [], i, e => someE e ⟨[], rfl, rfl⟩
  | v :: vs, i, e => by
    cases v with
    | int k =>
      refine mapE e fun j e1 => ?_
      obtain ⟨xs, h1, rfl⟩ := sumV_ints e1
      exact ⟨k :: xs, by rw [intsV, h1]; rfl, (List.sum_cons).symm⟩
    | _ => exact no e
theorem intItems_of {ts : List (Int × Tok)} : (ts.map (fun p => Value.int p.1 p.2)) = (intItems ts.toArray).toList := by simp [intItems]
theorem lst_items {h : Heap} {a : Addr} {its : Array Value} {k : Nat} {l : List V} {xs : List Int} (ho : h.get? a = some { cls := .type "list", data := .seq its k }) (hl : RepL fx W h l its.toList) (e : intsV l = some xs) :
    ∃ ts : List (Int × Tok), h.IsList a (intItems ts.toArray) ∧ ts.map (·.1) = xs := by
  obtain ⟨ts, h1, h2⟩ := ints_items hl e
  refine ⟨ts, ⟨_, ho, rfl, k, ?_⟩, h2⟩
  show Data.seq its k = _
  congr 1
  rw [intItems_of] at h1
  exact Array.toList_inj.mp h1
theorem len_ok {n : Nat} (h : lenOk n = true) : (n : Int) < 2 ^ 63 := Int.lt_of_le_of_lt (Int.ofNat_le.mpr (lenOk_iff h)) (by decide)
theorem maxq {xs : List Int} {M : Int} (hm : M ∈ xs) (hu : ∀ a, a ∈ xs → a ≤ M) : xs.max? = some M := List.max?_eq_some_iff.mpr ⟨hm, hu⟩
theorem minq {xs : List Int} {M : Int} (hm : M ∈ xs) (hu : ∀ a, a ∈ xs → M ≤ a) : xs.min? = some M := List.min?_eq_some_iff.mpr ⟨hm, hu⟩
section
variable {vs : List V} {cs : List Value} {v : V}
noncomputable def BiS (fx : Fix) (A : Around) (W : Addr → Prop) (s : Shared) (v : V) (bv : Value) (cs : List Value) : Prop := ∀ X, wpAny fx.M A (call bv cs) (VPost fx W s v) X s
theorem one_of {f : V → Option V} {bv : Value} (hl : RepTL fx Wl W s.heap vs cs) (e : (oneO vs).bind f = some v) (H : ∀ x c, RepT fx Wl W s.heap x c → f x = some v → BiS fx A W s v bv [c]) : BiS fx A W s v bv cs := by
  refine bindE e fun x e1 e => ?_
  revert hl
  exact oneE (Q := fun vs => RepTL fx Wl W s.heap vs cs → _) e1 fun hl => hl.one fun c h => H x c h e
theorem len_s {x : V} {c : Value} (h : RepT fx Wl W s.heap x c) (e : lenV x = some v) : BiS fx A W s v (.builtin "len") [c] := by
  intro X
  cases x with
  | str l => exact iteY e fun hk e => h.str fun t => someE e (P.len_str (by have := len_ok hk; show ¬ ((l.toArray.size : Nat) : Int) ≥ _; rw [List.size_toArray]; omega) ⟨.tok, int_v⟩)
  | lst l => exact iteY e fun hk e => h.lst fun a its n ho _ z => someE e (z ▸ call_len_list ⟨_, ho, rfl, n, rfl⟩ (by have := len_ok hk; rw [z]; omega) ⟨.tok, int_v⟩)
  | tup l => exact iteY e fun hk e => RepT.seq h fun a its n _ ho hl => someE e (by
      have z : its.size = l.length := its.length_toList.symm.trans hl.length
      have := len_ok hk
      rw [← z]; exact P.len_tuple ho (by rw [z]; omega) ⟨.tok, int_v⟩)
  | _ => exact no e
theorem chr_s {x : V} {c : Value} (h : RepT fx Wl W s.heap x c) (e : chrV x = some v) : BiS fx A W s v (.builtin "chr") [c] :=
  fun X => bindE e fun i e1 e => iteY e fun hk e => h.intO e1 fun t => someE e (P.chr_of_int (by
    simp only [Bool.or_eq_true, Bool.and_eq_true, decide_eq_true_eq] at hk
    simp only [Bool.or_eq_false_iff, decide_eq_false_iff_not]; omega) ⟨.tok, .mk _⟩)
theorem ord_s {x : V} {c : Value} (h : RepT fx Wl W s.heap x c) (e : ordC x = some v) : BiS fx A W s v (.builtin "ord") [c] :=
  fun X => bindE e fun l e1 e => mapE e fun k e2 => h.strO e1 fun t => oneE e2 (P.ord_of_char ⟨.tok, int_v⟩)
theorem sum_s (hh : A.handled = none) {x : V} {c : Value} (h : RepT fx Wl W s.heap x c) (e : sumL x = some v) : BiS fx A W s v (.builtin "sum") [c] := by
  refine fun X => bindE e fun l e1 e => mapE e fun i e2 => h.lstO e1 fun a its k ho hl _ => ?_
  obtain ⟨xs, e3, rfl⟩ := sumV_ints e2
  obtain ⟨ts, h1, rfl⟩ := lst_items ho hl e3
  refine sum_intListG hh h1 fun h' tk t' hk => ⟨.heap hk, ?_⟩
  rw [show preSum (numAt ts.toArray) ts.toArray.size = (ts.map (·.1)).sum by rw [preSum_eq, List.take_of_length_le (by simp)]]
  exact int_v
theorem max2_s (hh : A.handled = none) {x y : V} {c d : Value} (h : RepT fx Wl W s.heap x c) (h' : RepT fx Wl W s.heap y d) (e : max2 x y = some v) : BiS fx A W s v (.builtin "max") [c, d] := by
  refine fun X => bindE e fun i e1 e => mapE e fun j e2 => h.intO e1 fun t => h'.intO e2 fun u => max_two_ints hh fun h' tk hk => ⟨.heap hk, ?_⟩
  split <;> exact int_v
theorem ts_size {ts : List (Int × Tok)} {f : List Int → Option Int} (h0 : f [] = none) {m : Int} (e : f (ts.map (·.1)) = some m) : 0 < ts.toArray.size := by
  cases ts with
  | nil => rw [List.map_nil, h0] at e; exact no e
  | cons _ _ => exact Nat.succ_pos _
theorem best_of {ts : List (Int × Tok)} {k : Nat} {P : Int → Int → Prop} (hsz : 0 < ts.toArray.size) (q1 : k ≤ ts.toArray.size - 1) (q2 : ∀ j ≤ ts.toArray.size - 1, P (numAt ts.toArray j) (numAt ts.toArray k)) :
    numAt ts.toArray k ∈ ts.map (·.1) ∧ ∀ a, a ∈ ts.map (·.1) → P a (numAt ts.toArray k) := by
  rw [List.size_toArray] at q1 q2 hsz
  refine ⟨?_, fun a ha => ?_⟩
  · rw [numAt_eq]; exact getD_mem (by rw [List.length_map]; omega)
  · obtain ⟨j, hj, rfl⟩ := mem_getD ha
    rw [List.length_map] at hj
    rw [← numAt_eq ts.toArray j]
    exact q2 j (by omega)
theorem maxL_s (hh : A.handled = none) {x : V} {c : Value} (h : RepT fx Wl W s.heap x c) (e : maxL x = some v) : BiS fx A W s v (.builtin "max") [c] := by
  refine fun X => bindE e fun l e1 e => bindE e fun xs e2 e => mapE e fun m e3 => h.lstO e1 fun a its k ho hl _ => ?_
  obtain ⟨ts, h1, rfl⟩ := lst_items ho hl e2
  have hsz := ts_size rfl e3
  refine max_intList hh h1 hsz fun v h' tk hv hk => ?_
  obtain ⟨t, rfl⟩ := intItems_at hv
  obtain ⟨q1, q2⟩ := argBest_gt (numAt ts.toArray) (ts.toArray.size - 1)
  have ⟨z1, z2⟩ := best_of (P := fun a b => a ≤ b) hsz q1 q2
  exact ⟨.heap hk, Option.some.inj ((maxq z1 z2).symm.trans e3) ▸ int_v⟩
theorem minL_s (hh : A.handled = none) {x : V} {c : Value} (h : RepT fx Wl W s.heap x c) (e : minL x = some v) : BiS fx A W s v (.builtin "min") [c] := by
  refine fun X => bindE e fun l e1 e => bindE e fun xs e2 e => mapE e fun m e3 => h.lstO e1 fun a its k ho hl _ => ?_
  obtain ⟨ts, h1, rfl⟩ := lst_items ho hl e2
  have hsz := ts_size rfl e3
  refine min_intList hh h1 hsz fun v h' tk hv hk => ?_
  obtain ⟨t, rfl⟩ := intItems_at hv
  obtain ⟨q1, q2⟩ := argBest_lt (numAt ts.toArray) (ts.toArray.size - 1)
  have ⟨z1, z2⟩ := best_of (P := fun a b => b ≤ a) hsz q1 q2
  exact ⟨.heap hk, Option.some.inj ((minq z1 z2).symm.trans e3) ▸ int_v⟩
theorem max_s (hh : A.handled = none) (hl : RepTL fx Wl W s.heap vs cs) (e : maxV vs = some v) : BiS fx A W s v (.builtin "max") cs := by
  cases vs with
  | nil => exact no e
  | cons x l =>
    refine hl.cons fun c cs h hl => iteB e (fun h0 e => ?_) fun _ e => bindE e fun y e1 e => ?_
    · revert hl
      exact nilE (Q := fun l => RepTL fx Wl W s.heap l cs → _) h0 fun hl => (hl : cs = []) ▸ maxL_s hh h e
    · revert hl
      exact oneE (Q := fun l => RepTL fx Wl W s.heap l cs → _) e1 fun hl => hl.one fun d h' => max2_s hh h h' e
noncomputable def BiT (fx : Fix) (vs : List V) (v : V) (bv : Value) : Prop := ∀ {A : Around} {Wl W : Addr → Prop} {s : Shared} {cs : List Value}, A.handled = none → (∀ h : Heap, Kp s.heap h → ¬ W h.objs.size) → RepTL fx Wl W s.heap vs cs → BiS fx A W s v bv cs
theorem bi_sound {f : Str} (e : biV f vs = some v) : ∃ bv, biNames.lookup f = some bv ∧ (∃ i, bv = .builtin i ∨ bv = .type i) ∧ BiT fx vs v bv :=
  iteB e (fun hf e => eqE hf ⟨.builtin "len", by decide, ⟨_, .inl rfl⟩, fun _ _ hl => one_of hl e fun _ _ => len_s⟩) fun _ e =>
  iteB e (fun hf e => eqE hf ⟨.builtin "chr", by decide, ⟨_, .inl rfl⟩, fun _ _ hl => one_of hl e fun _ _ => chr_s⟩) fun _ e =>
  iteB e (fun hf e => eqE hf ⟨.builtin "ord", by decide, ⟨_, .inl rfl⟩, fun _ _ hl => one_of hl e fun _ _ => ord_s⟩) fun _ e =>
  iteB e (fun hf e => eqE hf ⟨.type "int", by decide, ⟨_, .inr rfl⟩, fun _ _ hl => one_of hl e fun _ _ h e _ => mapE e fun b e1 => h.boolO e1 (call_int_bool ⟨.tok, int_v⟩)⟩) fun _ e =>
  iteB e (fun hf e => eqE hf ⟨.builtin "sum", by decide, ⟨_, .inl rfl⟩, fun hh _ hl => one_of hl e fun _ _ => sum_s hh⟩) fun _ e =>
  iteB e (fun hf e => eqE hf ⟨.builtin "max", by decide, ⟨_, .inl rfl⟩, fun hh _ hl => max_s hh hl e⟩) fun _ e =>
  iteB e (fun hf e => eqE hf ⟨.builtin "min", by decide, ⟨_, .inl rfl⟩, fun hh _ hl => one_of hl e fun _ _ => minL_s hh⟩) fun _ e =>
  iteY e fun hf e => eqE hf ⟨.type "tuple", by decide, ⟨_, .inr rfl⟩, fun {_ _ _ s _} _ hfr hl => one_of hl e fun _ _ h e _ => bindE e fun l e1 e => iteY e fun hk e => h.lstO e1 fun a its n ho hl z => someE e
    (call_tuple_list ⟨_, ho, rfl, n, rfl⟩ (fun h' hk' => ⟨(Ext.heap (tk := s.toks) hk').trans .push, tup_new (hfr h' hk') (hl.keeps hk')⟩) (by rw [z]; exact lenOk_le hk))⟩
end
end
end Mine
end
section
open PySem PySem.Calls PyProof.Rows PySem.W
set_option maxRecDepth 10000
namespace Mine
structure Stat (fx : Fix) : Prop where
  bi : ∀ f v, biNames.lookup f = some v → fx.mg f = none ∧ fx.mb f = some v
  fns : ∀ f g, fx.G.fns.lookup f = some g → ∃ a, fx.mg f = some (.ref a) ∧ FnAt fx a g
  meths : ∀ m g, fx.G.meths.lookup m = some g → fldNames.contains m = false ∧ ∃ a, findIn fx.K (.ref fx.C) m = some (some (.ref a)) ∧ isFn fx.K (.ref a) = true ∧ FnAt fx a g
  cls : fx.mg (nm "Whitespace") = some (.ref fx.C)
  ckeep : keepIn fx.K (.ref fx.C) = true
  pg : ∀ a, plainGet fx.K fx.C a = true
  hd : hasDictIn fx.K fx.C = true
  fld : ∀ a, fldNames.contains a = true → findIn fx.K (.ref fx.C) a = some none
  setA : findIn fx.K (.ref fx.C) "__setattr__" = some (some (.builtin "object.__setattr__"))
  over : plainOver fx.K fx.C = true
  makes : makesIn fx.K fx.C = true
  taker : ∀ a, fldNames.contains a = true → takerIn fx.K fx.C a = some none
  clsS : ∃ mc, readsIn fx.K fx.C mc = true ∧ (∃ t, findCls fx.K (.ref fx.C) mc (nm "S") = some (.val (.str ⟨#[32]⟩ t))) ∧ ∃ t, findCls fx.K (.ref fx.C) mc (nm "T") = some (.val (.str ⟨#[9]⟩ t))
  b1 : ∃ a, fx.mg (nm "b1_set") = some (.ref a) ∧ ∃ n, ∀ h, BaseH fx h → h.SetOf (intKind fx.prog fx.w) a (fun i => fx.G.b1.any fun k => decide ((k : Int) = i)) n
  b3 : ∃ a, fx.mg (nm "b3_exceptions") = some (.ref a) ∧ (a == sysModules) = false ∧ ∃ f, (∀ h, BaseH fx h → h.MapOf (intKind fx.prog fx.w) a f) ∧ ∀ i, match fx.G.b3.lookup i with | some t => ∃ u, f i = some (.str ⟨t.toArray⟩ u) | none => f i = none
section
variable {fx : Fix} {r : Evs} {n : Nat} {A : Around} {env : Env} {c : Cx} {Wl W : Addr → Prop} {ow : List (Str × Addr)} {ρ : Rho} {s : Shared} {X : Value → Shared → Prop}
theorem stars_plain : ∀ {es : List Expr} {t : Bool} {vs : List V} {pos : Pos}, evL r c ρ es = some (t, vs) → (backTo pos (starEach es env)).any (·.1) = false
  | [], _, _, _, _ => rfl
  | x :: es, t, vs, pos, e => evLE (Q := fun _ _ => _) e fun _ _ _ _ hs _ e2 => by
    rw [starEach_plain hs]
    exact stars_plain (es := es) (pos := pos) e2
theorem call_any (S : Snd fx r n) (R : Room A n) (F : FR fx env c Wl ow ρ s.heap) {es : List Expr} {t : Bool} {vs : List V} {pos : Pos} {f : Value} {first : List Value} {Q : Value → Shared → Prop} (e1 : evL r c ρ es = some (t, vs))
    (hk : ∀ s', Ext s s' → ∃ k, (k = Keeper.frame ∨ k = Keeper.machine ∨ k = Keeper.boundFrame) ∧ Looks fx.M s'.heap (keeperOf f) k)
    (h : ∀ cvs s', Ext s s' → FR fx env c Wl ow ρ s'.heap → RepLB fx t Wl (Wf Wl ow) s'.heap vs cvs → wpAny fx.M A (call f (first ++ cvs)) Q X s') :
    wpAny fx.M A (callWith pos f first (backTo pos (starEach es env)) []) Q X s := by
  refine callWith_of (P := fun h => ∃ s', Ext s s' ∧ s'.heap = h) (by rw [stars_plain e1]; rfl) (fun h ⟨s', e, q⟩ => q ▸ hk s' e) ?_
  have body : wpAny fx.M A (spliced (backTo pos (starEach es env))) (fun vs' s₁ => (∃ s', Ext s s' ∧ s'.heap = s₁.heap) ∧ wpAny fx.M A (call f (first ++ vs')) Q X s₁) X s :=
    e_list S R F e1 fun cvs s₁ x1 F1 h1 => ⟨⟨s₁, x1, rfl⟩, h cvs s₁ x1 F1 h1⟩
  cases es with
  | nil => exact evalArgs_nil3 ⟨⟨s, .refl _, rfl⟩, h [] s (.refl _) F (someP (Q := fun t vs => RepLB fx t Wl (Wf Wl ow) s.heap vs []) e1 rfl)⟩
  | cons x es =>
    have hs : isStar x = false := evLE (Q := fun _ _ => _) e1 fun _ _ _ _ hs _ _ => hs
    rw [starEach_plain hs] at body ⊢
    exact evalArgs_plain body
theorem glob_ne (F : FR fx env c Wl ow ρ s.heap) {f : Str} (hg : isGl c f = true) : env.kindOf f = some .globalImplicit := by
  have := eq_of_beq hg
  show env.scope.names.lookup f = _
  rw [F.names]; exact this
theorem glob_at (F : FR fx env c Wl ow ρ s.heap) {f : Str} {v : Value} {p : Pos} {Q : Value → Shared → Prop} (hg : isGl c f = true) (hv : fx.mg f = some v) (q : Q v s) : wpAny fx.M A (eval (.Name f p) env) Q X s := by
  have k := glob_ne F hg
  exact Name_function_global F.kind k (loadGlobal_global (by rw [F.gl]; exact F.base.g) hv q) (kind_ne F k)
theorem built_at (F : FR fx env c Wl ow ρ s.heap) {f : Str} {v : Value} {p : Pos} {Q : Value → Shared → Prop} (hg : isGl c f = true) (hm : fx.mg f = none) (hv : fx.mb f = some v) (q : Q v s) : wpAny fx.M A (eval (.Name f p) env) Q X s := by
  have k := glob_ne F hg
  exact Name_function_global F.kind k (loadGlobal_builtin (by rw [F.gl]; exact F.base.g) hm (by rw [F.bl]; exact F.base.b) hv q) (kind_ne F k)
theorem keep_plain {M : Model} {h : Heap} {v : Value} (e : ∃ i, v = .builtin i ∨ v = .type i) : ∃ k, (k = Keeper.frame ∨ k = Keeper.machine ∨ k = Keeper.boundFrame) ∧ Looks M h (keeperOf v) k := by
  obtain ⟨i, rfl | rfl⟩ := e <;> exact ⟨.machine, .inr (.inl rfl), Looks.of_pure rfl⟩
theorem fresh_of (F : FR fx env c Wl ow ρ s.heap) : ∀ h : Heap, Kp s.heap h → ¬ Wf Wl ow h.objs.size := fun _ k => (F.keeps k).freshSize
theorem e_callF (Z : Stat fx) (S : SndX fx r n) (R : Room A n) (F : FR fx env c Wl ow ρ s.heap) {f : Str} {args : List Expr} {p pos : Pos} {v : V} (hg : isGl c f = true) (e : callE r c ρ f args = some v) :
    wpAny fx.M A (eval (.Call (.Name f p) args [] pos) env) (EPost fx Wl ow s false v) X s := by
  refine bindE e fun p1 e1 e => Call_Name rfl ?_
  revert e
  cases q : biV f p1.2 with
  | some u =>
    refine fun e => someE e ?_
    obtain ⟨bv, hb, hi, H⟩ := bi_sound (fx := fx) q
    exact built_at F hg (Z.bi _ _ hb).1 (Z.bi _ _ hb).2 (call_any S.toSnd R F (t := p1.1) e1 (fun s' _ => keep_plain hi) fun cvs s' x F1 hl => wm (H R.handled (fresh_of F1) (hl.t F.wl) X) fun cv s₂ h2 => ⟨x.trans h2.1, h2.2⟩)
  | none =>
    refine fun e => iteN e fun ht e => ?_
    obtain ⟨fv, k1, k2⟩ := S.F0 e
    refine glob_at F hg k1 (call_any S.toSnd R F (t := p1.1) e1 (fun s' x => keeps_K k2 _ (F.ext x).base.X) fun cvs s' x F1 hl => ?_)
    rw [ht] at hl
    exact wm (S.F R F1.gd hl e k1 X) fun cv s₂ h2 => ⟨x.trans h2.1, h2.2⟩
theorem isIn_eq {op : CmpOp} (h : isIn op = true) : op = .In := by cases op <;> first | rfl | cases h
theorem ask_parts {ops : List CmpOp} {es : List Expr} (h : setAsk c ρ ops es = true) : ∃ p, ops = [.In] ∧ es = [.Name (nm "b1_set") p] ∧ isGl c (nm "b1_set") = true := by
  match ops, es, h with
  | [op], [e], h =>
    refine andE h fun h1 h => ?_
    rw [isIn_eq h1]
    revert h
    cases q : nameO e with
    | none => exact fun h => nomatch h
    | some x => exact fun h => andE h fun h h3 => andE h fun h1 h2 => nameE q fun p => by rw [eq_of_beq h3] at h2 ⊢; exact ⟨p, rfl, rfl, h2⟩
theorem in_b1 (Z : Stat fx) (S : Snd fx r n) (R : Room A n) (F : FR fx env c Wl ow ρ s.heap) {l : Expr} {p : Pos} {t : Bool} {v : V} {i : Int} (hg : isGl c (nm "b1_set") = true) (e : r.E c ρ l = some (t, v)) (ei : intO v = some i) {Q : Value → Shared → Prop}
    (q : ∀ s', Ext s s' → Q (.bool (fx.G.b1.any fun k => decide ((k : Int) = i))) s') :
    wpAny fx.M A (eval l env) (fun a s₁ => wpAny fx.M A (eval (.Name (nm "b1_set") p) env) (fun b s₂ => wpAny fx.M A (compareOp .In a b) Q X s₂) X s₁) X s := by
  refine S.ev R F e fun cv s₁ x F1 h => h.intO ei fun u => ?_
  obtain ⟨a, z1, k, z2⟩ := Z.b1
  exact glob_at F1 hg z1 (wpAny_inSet_of (knd := intKind fx.prog fx.w) (k := i) (by simp [intKind, Value.isInt]) rfl (z2 _ F1.base) (q _ (x.trans .tok)))
theorem cmpI {l : Expr} {ops : List CmpOp} {es : List Expr} {b : Bool} {P : Prop} (e : cmpE fx.G r c ρ l ops es = some b) (k1 : ∀ t v i p, ops = [.In] → es = [.Name (nm "b1_set") p] → isGl c (nm "b1_set") = true → r.E c ρ l = some (t, v) → intO v = some i → b = (fx.G.b1.any fun k => decide ((k : Int) = i)) → P)
    (k2 : lastMarks ops es = false → ops.length = es.length → ∀ t v, r.E c ρ l = some (t, v) → chainE r c ρ v ops es = some b → P) : P :=
  iteN e fun h e => orN h fun h1 h2 => bindP e fun t v e1 e => iteB e (fun hq e => let ⟨p, a, b, hg⟩ := ask_parts hq; mapI e fun i ei e => k1 t v i p a b hg e1 ei e) fun _ e => k2 h1 (bne_eq_false_iff_eq.mp h2) t v e1 e
theorem e_cmp' (Z : Stat fx) (S : Snd fx r n) (R : Room A n) (F : FR fx env c Wl ow ρ s.heap) {l : Expr} {ops : List CmpOp} {es : List Expr} {pos : Pos} {b : Bool} (e : cmpE fx.G r c ρ l ops es = some b) :
    wpAny fx.M A (eval (.Compare l ops es pos) env) (EPost fx Wl ow s false (.bool b)) X s := by
  refine cmpI e (fun t v i p ho he hg e1 ei hb => ?_) fun hm hl t v e1 e2 => ?_
  · subst ho he hb
    exact wpAny_Compare1 (in_b1 Z S R F hg e1 ei fun s' x => .v x bool_v) rfl
  · rw [arm_eval_Compare, markedEach_of_false _ _ _ hm]
    exact wpAny_bind (S.ev R F e1 fun cv s₁ x1 F1 h1 => wm (e_chain S R hl F1 h1 e2) fun cv s₂ h2 => ⟨x1.trans h2.1, h2.2⟩)
theorem t_cmp' (Z : Stat fx) (S : Snd fx r n) (R : Room A n) (F : FR fx env c Wl ow ρ s.heap) {l : Expr} {ops : List CmpOp} {es : List Expr} {pos : Pos} {b : Bool} {whole : Sem Value} (e : cmpE fx.G r c ρ l ops es = some b) :
    wpAny fx.M A (isTrue (.Compare l ops es pos) env whole) (TPost b s) X s := by
  refine cmpI e (fun t v i p ho he hg e1 ei hb => ?_) fun hm hl t v e1 e2 => ?_
  · subst ho he hb
    exact wpAny_isTrue_Compare1 (in_b1 Z S R F hg e1 ei fun s' x => wpAny_truthy_bool ⟨rfl, x⟩) rfl
  · rw [arm_isTrue_Compare, markedEach_of_false _ _ _ hm]
    exact wpAny_bind (S.ev R F e1 fun cv s₁ x1 F1 h1 => wm (t_chain S R hl F1 h1 e2) fun cv s₂ h2 => ⟨h2.1, x1.trans h2.2⟩)
end
end Mine
end
section
open PySem PySem.Calls PyProof.Rows PySem.W
set_option maxRecDepth 10000
namespace Mine
section
variable {fx : Fix} {r : Evs} {n : Nat} {A : Around} {env : Env} {c : Cx} {Wl W : Addr → Prop} {ow : List (Str × Addr)} {ρ : Rho} {s : Shared} {X : Value → Shared → Prop}
theorem base_eq {o : Expr} {name : Str} {whole : Sem Value} (h : bareCall o = false) : attributeBase o name env whole = whole := by
  cases o with
  | Call f args kws p =>
    cases f with
    | Name x q =>
      cases args with
      | nil =>
        cases kws with
        | nil => cases h
        | cons => rfl
      | cons => rfl
    | _ => rfl
  | _ => rfl
theorem meth_any {o : Expr} {name : Str} {apos pos : Pos} {args : List Expr} {t : Bool} {vs : List V} {Q : Value → Shared → Prop} (hb : bareCall o = false) (hl : (apos.endLine == pos.line) = true) (hn : args.length < 30)
    (e1 : evL r c ρ args = some (t, vs))
    (h : wpAny fx.M A (eval o env) (fun ov s₁ => ∀ pl : Sem Bool, wpAny fx.M A (getMethod ov name pl) (fun p s₂ => wpAny fx.M A (callWith pos p.1 p.2 (backTo pos (starEach args env)) []) Q X s₂) X s₁) X s) :
    wpAny fx.M A (eval (.Call (.Attribute o name apos) args [] pos) env) Q X s := by
  rw [arm_eval_Call, base_eq hb]
  refine wpAny_bind (wm h fun ov s₁ h₁ => ?_)
  refine wpAny_bind (wpAny_standAt ?_)
  have hform : methodCallForm (args.length + ([] : List Keyword).length) (backTo pos (starEach args env)) (backToKw pos (keywordEach [] env)) = true := by
    unfold methodCallForm
    have := stars_plain (env := env) (pos := pos) e1
    simp only [Bool.and_eq_true, List.all_eq_true, Bool.not_eq_true']
    refine ⟨⟨fun x hx => ?_, fun x hx => (nomatch hx)⟩, ?_⟩
    · have := List.any_eq_false.mp this x hx
      simpa using this
    · have : (backToKw pos (keywordEach [] env)).isEmpty = true := rfl
      rw [this]; simp; omega
  have hpos : methodCallPos true o env apos pos = pure pos := by unfold methodCallPos; simp [hl]
  unfold methodCall
  rw [hform]
  refine wpAny_bind (wpAny_holding (wm (h₁ _) fun p s₂ h₂ => ?_))
  exact wpAny_bind (wpAny_of_eq hpos h₂)
theorem evL_of_one {a : Expr} {t : Bool} {v : V} (e : r.E c ρ a = some (t, v)) (hs : isStar a = false) : evL r c ρ [a] = some (t, [v]) := by
  show (if isStar a = true then none else (r.E c ρ a).bind _) = _
  rw [hs, e]
  exact congrArg (fun t => some (t, [v])) (Bool.or_false t)
theorem e_dict (Z : Stat fx) (S : Snd fx r n) (R : Room A n) (F : FR fx env c Wl ow ρ s.heap) {o : Expr} {m : Str} {args : List Expr} {apos pos : Pos} {v : V} (hd : dictAsk c ρ o m = true) (hl : (apos.endLine == pos.line) = true) (hn : args.length < 30)
    (e : dicE fx.G r c ρ args = some v) : wpAny fx.M A (eval (.Call (.Attribute o m apos) args [] pos) env) (EPost fx Wl ow s false v) X s := by
  revert hd
  unfold dictAsk
  cases q : nameO o with
  | none => exact fun h => nomatch h
  | some x =>
    refine fun hd => andE hd fun hd h4 => andE hd fun hd h3 => andE hd fun _ hg => eqE h4 (nameE q fun p => bindE e fun y e1 e => ?_)
    rw [eq_of_beq h3] at hg ⊢
    revert hn
    refine oneE e1 fun hn => iteN e fun hs e => bindP e fun t w e2 e => mapE e fun i ei => ?_
    obtain ⟨a, z1, z2, f, z3, z4⟩ := Z.b3
    refine meth_any rfl hl hn (evL_of_one e2 hs) (glob_at F hg z1 fun pl => ?_)
    obtain ⟨ob, es, ep, ho, hx, hdd, _⟩ := z3 _ F.base
    refine getMethod_builtin (T := "dict") (id := "dict.get") (z3 _ F.base).typeIs PySem.F.plainAttrs_dict PySem.F.slot_dict_get rfl (fun a' ha' => by cases ha'; exact ⟨ob, ho, hx.2.1⟩) ?_
    rw [starEach_plain hs]
    refine wpAny_dict_get1 (knd := intKind fx.prog fx.w) z2 (S.ev R F e2 fun cv s₁ x F1 h => h.intO ei fun u => ⟨i, f, by simp [intKind, Value.isInt], z3 _ F1.base, x.trans .tok, ?_⟩)
    have := z4 i
    show RepV fx _ _ (b3V fx.G i) _
    unfold b3V
    revert this
    cases fx.G.b3.lookup i with
    | some w => exact fun ⟨u, hu⟩ => by rw [hu]; exact .mk u
    | none => exact fun hu => by rw [show f i = none from hu]; exact none_v
theorem strs_are {h : Heap} : ∀ {l : List V} {ss : List (List Nat)} {cs : List Value}, strsV l = some ss → RepL fx W h l cs → StrsAre cs (ss.map fun x => (⟨x.toArray⟩ : Str))
  | [], ss, cs, e, q => (q : cs = []) ▸ someE e .nil
  | v :: l, ss, cs, e, q => q.cons fun c cs hv hl => by
    clear q
    cases v with
    | str i => exact mapE e fun ss' e' => match hv with | .mk t => .cons _ t (strs_are e' hl)
    | _ => exact no e
theorem join_cps (sep : List Nat) : ∀ xs : List (List Nat), Str.join ⟨sep.toArray⟩ (xs.map fun x => (⟨x.toArray⟩ : Str)) = ⟨(joinL sep xs).toArray⟩
  | [] => rfl
  | [x] => rfl
  | x :: y :: r => by
    have ih := join_cps sep (y :: r)
    show (⟨x.toArray⟩ : Str) ++ ⟨sep.toArray⟩ ++ Str.join ⟨sep.toArray⟩ ((y :: r).map fun x => (⟨x.toArray⟩ : Str)) = _
    rw [ih]
    show (⟨x.toArray ++ sep.toArray ++ (joinL sep (y :: r)).toArray⟩ : Str) = ⟨(x ++ (sep ++ joinL sep (y :: r))).toArray⟩
    congr 1
    simp
theorem cnt_is (c : Nat) : ∀ l : List Nat, cnt c l = (countC c l : Int)
  | [] => rfl
  | x :: l => by
    rw [cnt_cons, cnt_is c l]
    unfold countC
    by_cases h : x = c
    · simp [h]; omega
    · simp [h]
noncomputable def MtS (fx : Fix) (l : List Nat) (vs : List V) (v : V) (id : String) : Prop := ∀ {A : Around} {Wl W : Addr → Prop} {s : Shared} {cs : List Value} {t : Tok}, RepTL fx Wl W s.heap vs cs → ∀ X, wpAny fx.M A (call (.builtin id) (.str ⟨l.toArray⟩ t :: cs)) (VPost fx W s v) X s
theorem join_s {l : List Nat} {vs : List V} {v : V} (e : (oneO vs).bind (joinV l) = some v) : MtS fx l vs v "str.join" := by
  refine bindE e fun x e1 e => oneE e1 fun hl X => hl.one fun c h => bindE e fun ls e2 e => bindE e fun ss e3 e => iteY e fun hz e => h.lstO e2 fun a its k ho hl _ => someE e ?_
  have hz := lenOk_iff hz
  refine join_list ⟨_, ho, rfl, k, rfl⟩ (strs_are e3 hl) ?_ fun t' k' => ⟨.tok, ?_⟩
  · have q : ((ss.map fun x => (⟨x.toArray⟩ : Str)).map (·.length)) = ss.map (·.length) := by
      rw [List.map_map]; congr 1
    rw [q, List.length_map]
    show _ + _ * l.toArray.size ≤ _
    rw [List.size_toArray]
    omega
  · show RepV fx _ _ _ (.str (PySem.Builtin.Str.glued _ _) t')
    rw [StrLaws.glued_eq_join, join_cps]
    exact .mk _
theorem count_s {l : List Nat} {vs : List V} {v : V} (e : (oneO vs).bind (countV l) = some v) : MtS fx l vs v "str.count" :=
  bindE e fun x e1 e => oneE e1 fun hl X => hl.one fun c h => bindE e fun i e2 e => bindE e fun k e3 e => iteY e fun _ e => someE e (h.strO e2 fun u => oneE e3 (SC.count ⟨.tok, by rw [count_cnt, cnt_is]; exact int_v⟩))
theorem lower_s {l : List Nat} {vs : List V} {v : V} (e : (if vs.isEmpty then (oneO l).map fun c => V.str (lowC c) else none) = some v) : MtS fx l vs v "str.lower" := by
  intro A Wl W s cs t hl X
  refine iteY e fun h0 e => mapE e fun k e1 => ?_
  revert hl
  refine nilE (Q := fun vs => RepTL fx Wl W s.heap vs cs → _) h0 fun hl => ?_
  cases (hl : cs = [])
  refine oneE (Q := fun l => wpAny fx.M A (call (.builtin "str.lower") [.str ⟨l.toArray⟩ t]) (VPost fx W s (V.str (lowC k))) X s) e1 (SCL.lower (by simp [Str.length]) fun _ => ⟨.tok, ?_⟩)
  have h : RepV fx W s.heap (.str (lowC k)) (.str (Txt.lower ⟨#[k]⟩) s.toks) := by
    have : (Txt.lower ⟨#[k]⟩) = ⟨(lowC k).toArray⟩ := by simp [lowC]
    rw [this]; exact .mk _
  exact h
theorem strm {l : List Nat} {m : Str} {vs : List V} {v : V} (e : methS l m vs = some v) : ∃ id, (Slot "str" m id ∧ typeOf (.builtin id) = pure (.type "method_descriptor")) ∧ MtS fx l vs v id :=
  iteB e (fun hm e => eqE hm ⟨_, ⟨PySem.F.slot_str_join, PySem.F.type_str_join⟩, join_s e⟩) fun _ e =>
  iteB e (fun hm e => eqE hm ⟨_, ⟨PySem.F.slot_str_count, PySem.F.type_str_count⟩, count_s e⟩) fun _ e =>
  iteY e fun hm e => eqE hm ⟨_, ⟨PySem.F.slot_str_lower, PySem.F.type_str_lower⟩, lower_s e⟩
theorem keys_none : ∀ {ns : List Str} {es : List DictEntry} {a : Str}, KeysAre ns es → ns.contains a = false → getL a es = some none := by
  intro ns es a h hc
  have k : ∀ {ns : List Str} {es : List DictEntry}, KeysAre ns es → ns.contains a = false → es.find? (·.key.isStr a) = none ∧ es.any (·.refKey) = false := by
    intro ns
    induction ns with
    | nil => intro es h _; simp only [KeysAre] at h; subst h; exact ⟨rfl, rfl⟩
    | cons n ns ih =>
      intro es h hc
      simp only [KeysAre] at h
      obtain ⟨e, r, rfl, ⟨t, hk⟩, h⟩ := h
      simp only [List.contains_cons, Bool.or_eq_false_iff] at hc
      obtain ⟨i1, i2⟩ := ih h hc.2
      have e1 : e.key.isStr a = false := by
        rw [hk]
        show (n == a) = false
        cases q : n == a with
        | false => rfl
        | true => rw [eq_of_beq q] at hc; simp at hc
      have e2 : e.refKey = false := by unfold DictEntry.refKey; rw [hk]
      exact ⟨by simp [List.find?_cons, e1, i1], by simp only [List.any_cons, e2, i2, Bool.or_false]⟩
  obtain ⟨k1, k2⟩ := k h hc
  unfold getL
  rw [k1, k2]; rfl
theorem keys_get {h : Heap} : ∀ {ns : List Str} {vs : List V} {es : List DictEntry} {a : Str} {v : V}, KeysAre ns es → RepL fx W h vs (es.map (·.val)) → lookF ns vs a = some v → ∃ c, getL a es = some (some c) ∧ RepV fx W h v c := by
  intro ns
  induction ns with
  | nil => intro vs es a v _ _ e; exact no e
  | cons n ns ih =>
    intro vs es a v hk hl e
    obtain ⟨en, r, rfl, ⟨t, hk⟩, hr⟩ := hk
    cases vs with
    | nil => exact no e
    | cons v0 vs =>
      obtain ⟨c, cs, hv, hl⟩ := hl
      simp only [lookF] at e
      by_cases hn : n = a
      · rw [if_pos hn] at e; cases e
        subst hn
        refine ⟨en.val, ?_, hv⟩
        have : en.key.isStr n = true := by rw [hk]; show (n == n) = true; simp
        unfold getL; simp [List.find?_cons, this]
      · rw [if_neg hn] at e
        obtain ⟨c, g, hc⟩ := ih hr hl e
        refine ⟨c, ?_, hc⟩
        have e1 : en.key.isStr a = false := by
          rw [hk]; show (n == a) = false; simpa using hn
        have e2 : en.refKey = false := by unfold DictEntry.refKey; rw [hk]
        unfold getL at g ⊢
        simpa [List.find?_cons, e1, List.any_cons, e2] using g
theorem inst_of {h : Heap} {a d : Addr} {es : List DictEntry} {k : Nat} (ho : h.get? a = some (instObj fx.C d)) (hd : h.get? d = some (dictOf es k)) : InstAt h a (instObj fx.C d) fx.C (some (dictOf es k)) := ⟨ho, rfl, rfl, hd⟩
theorem handed {W : Addr → Prop} {h : Heap} {v : V} {c : Value} (x : RepV fx W h v c) : handedIn c = true := by
  cases v with
  | none => cases (x : c = _); rfl
  | bool => cases (x : c = _); rfl
  | _ => cases x; rfl
theorem attr_inst (Z : Stat fx) (B : BaseH fx s.heap) {a d : Addr} {es : List DictEntry} {k : Nat} {ns : List Str} {vs : List V} {f : Str} {v : V} {ex : Bool} (ho : s.heap.get? a = some (instObj fx.C d)) (hd : s.heap.get? d = some (dictOf es k)) (hk : KeysAre ns es)
    (hl : RepL fx W s.heap vs (es.map (·.val))) (hf : fldNames.contains f = true) (e : lookF ns vs f = some v) :
    wpAny fx.M A (getAttr (.ref a) f ex) (VPost fx W s v) X s := by
  obtain ⟨c, g, hc⟩ := keys_get hk hl e
  refine get_value B.X (inst_of ho hd) (plainGet_of (Z.pg f)).1 (findObj_own Z.hd (Z.fld f hf) rfl ?_) (handed hc) ⟨.tok, hc⟩
  rw [lookIn_dict]; exact g
theorem e_meth (S : SndX fx r n) (R : Room A n) (F : FR fx env c Wl ow ρ s.heap) {o : Expr} {m : Str} {args : List Expr} {apos pos : Pos} {v : V} (hb : bareCall o = false) (hl : (apos.endLine == pos.line) = true) (hn : args.length < 30)
    (Z : Stat fx) (e : mthE r c ρ o m args = some v) : wpAny fx.M A (eval (.Call (.Attribute o m apos) args [] pos) env) (EPost fx Wl ow s false v) X s := by
  refine bindP e fun t u e1 e => bindE e fun p e2 e => meth_any hb hl hn (t := p.1) (vs := p.2) e2 (S.toSnd.evB R F e1 fun ov s₁ x1 F1 h1 pl => ?_)
  cases u with
  | obj ns fs =>
    refine iteN e fun hz e => orN hz fun h0 hz => orN hz fun h00 hns => ?_
    have e5 : r.M m (.obj ns fs) p.2 = some v := e
    obtain ⟨k1, fa, k2, k3, k4⟩ := S.M0 e5
    cases (h0 : t = _)
    have hv : RepV fx (Wf Wl ow) s₁.heap (.obj ns fs) ov := h1
    revert hv
    refine RepV.obj h1 (Q := fun ov => RepV fx (Wf Wl ow) s₁.heap (.obj ns fs) ov → wpAny fx.M A (getMethod ov m pl) _ X s₁) fun a d es k hne ho hd hk hl' hv => ?_
    refine method_fn F1.base.X (inst_of ho hd) (plainGet_of (Z.pg m)).1 (plainGet_of (Z.pg m)).2 k2 (beq_iff_eq.mp k3) (by show (lookIn m (dictOf es k)).map _ = _; rw [lookIn_dict, keys_none hk hns]; rfl) ?_
    exact call_any S.toSnd R F1 (t := p.1) e2 (fun s' x => keeps_K k4 _ (F1.ext x).base.X) fun cvs s' x F2 hl2 => wm (S.M R F2.gd (hv.keeps x.keep) (by rw [h00] at hl2; exact hl2) e5 k2 X) fun cv s₂ h2 => ⟨(x1.trans x).trans h2.1, h2.2⟩
  | str l =>
    refine (h1.t F1.wl).str fun tk => ?_
    obtain ⟨id, ⟨hs, hty⟩, H⟩ := strm (fx := fx) e
    exact getMethod_builtin (T := "str") (typeIs_str _ _ _) PySem.F.plainAttrs_str hs hty (fun a q => by cases q) (call_any S.toSnd R F1 (t := p.1) e2 (fun s' _ => keep_plain ⟨_, .inl rfl⟩) fun cvs s' x F2 hl' => wm (H (hl'.t F1.wl) X) fun cv s₂ h2 => ⟨(x1.trans x).trans h2.1, h2.2⟩)
  | _ => exact no e
theorem attr_name {x a : Str} {p pos : Pos} {Q : Value → Shared → Prop} (h : wpAny fx.M A (eval (.Name x p) env) (fun o s₁ => wpAny fx.M A (getAttr o a true) Q X s₁) X s) :
    wpAny fx.M A (eval (.Attribute (.Name x p) a pos) env) Q X s := by
  rw [arm_eval_Attribute, base_eq rfl]
  refine wpAny_bind (wm h fun o s₁ h₁ => ?_)
  refine wpAny_bind (wpAny_standAt (wpAny_bind (wpAny_holding (wm h₁ fun c s₂ h₂ => ?_))))
  exact wpAny_bind (wpAny_pure (wpAny_pure h₂))
theorem e_attr (Z : Stat fx) (F : FR fx env c Wl ow ρ s.heap) {x a : Str} {p pos : Pos} {v : V} (e : attE c ρ x a = some v) :
    wpAny fx.M A (eval (.Attribute (.Name x p) a pos) env) (EPost fx Wl ow s false v) X s := by
  refine attr_name ?_
  revert e
  unfold attE
  cases q : find ρ x with
  | some b =>
    refine fun e => bindE e fun p e1 e => iteY e fun hf e5 => ?_
    have hb := F.bind x _ q
    cases b with
    | val w =>
      obtain ⟨cv, h1, h2⟩ := hb
      revert h2
      refine objE (v := w) (Q := fun w => RepV fx (Wf Wl ow) s.heap w cv → _) e1 fun h2 => ?_
      revert h1
      exact h2.obj (Q := fun cv => At env s.heap x cv → _) fun o d es k hne ho hd hk hl h1 => name_at F h1 (wm (attr_inst Z F.base ho hd hk hl hf e5) fun c s₁ h => ⟨h.1, h.2⟩)
    | own w =>
      revert hb
      refine objE (v := w) (Q := fun w => BdR fx (Wf Wl ow) ow env s.heap x (.own w) → _) e1 fun hb => ?_
      obtain ⟨o, h1, h2, h3⟩ := hb
      obtain ⟨d, es, k, h3, hne, ho, hd, hk, hl⟩ := h3
      exact name_at F h2 (wm (attr_inst Z F.base ho hd hk hl hf e5) fun c s₁ h => ⟨h.1, h.2⟩)
  | none =>
    refine fun e => iteY e fun hz e => andE hz fun hg hx => ?_
    rw [eq_of_beq hx] at hg ⊢
    refine glob_at F hg Z.cls ?_
    obtain ⟨mc, hr, ⟨tS, hS⟩, tT, hT⟩ := Z.clsS
    exact iteB e (fun ha e => eqE ha (someE e (cls_value F.base.X hr hS rfl ⟨.tok, .mk _⟩))) fun _ e => iteY e fun ha e => eqE ha (someE e (cls_value F.base.X hr hT rfl ⟨.tok, .mk _⟩))
end
end Mine
end
section
open PySem PySem.Calls PyProof.Rows PySem.W
set_option maxRecDepth 10000
namespace Mine
structure Chg0 (wr : Addr → Prop) (gi : Nat → Prop) (s s' : Shared) : Prop where
  keep : ∀ b o, ¬ wr b → s.heap.get? b = some o → s'.heap.get? b = some o
  gens : ∀ (i : Nat) (x : GenState), ¬ gi i → s.gens[i]? = some x → s'.gens[i]? = some x
  bare : AllBare s.gens → AllBare s'.gens
  os : s'.os = s.os
structure Chg (wr wr' : Addr → Prop) (gi : Nat → Prop) (s s' : Shared) : Prop extends Chg0 wr gi s s' where
  sub : ∀ b, wr b → wr' b
  grow : ∀ b, wr' b → wr b ∨ s.heap.get? b = none
  live : ∀ b, wr' b → ∃ o, s'.heap.get? b = some o
noncomputable def Rd (W : Addr → Prop) (h₂ : Heap) (b : Addr) : Prop := ¬ W b ∧ ∃ o, h₂.get? b = some o
inductive SomeAt (P : Value → Shared → Prop) : Option Value → Shared → Prop
  | mk (c : Value) (s : Shared) : P c s → SomeAt P (some c) s
inductive GotAt (fx : Fix) (U : Addr → Prop) (gi : Nat → Prop) (S : (Addr → Prop) → Shared → Prop) (wr : Addr → Prop) (s : Shared) (v : V) (c : Value) (s' : Shared) : Prop
  | mk (wr' : Addr → Prop) : RepV fx (fun b => U b ∨ wr' b) s'.heap v c → S wr' s' → Chg wr wr' gi s s' → GotAt fx U gi S wr s v c s'
structure Itr (fx : Fix) (A : Around) (W : Addr → Prop) (h₂ : Heap) (I : Addr) (target : Expr) (St : (Addr → Prop) → (Nat → Prop) → List V → Shared → Prop) : Prop where
  live : ∀ {wr gi vs s}, St wr gi vs s → ∀ b, wr b → ∃ o, s.heap.get? b = some o
  frame : ∀ {wr gi vs} {s s' : Shared}, St wr gi vs s → (∀ b o, wr b ∨ Rd W h₂ b → s.heap.get? b = some o → s'.heap.get? b = some o) → (∀ (i : Nat) (x : GenState), gi i → s.gens[i]? = some x → s'.gens[i]? = some x) → St wr gi vs s'
  item : ∀ {wr gi v vs s} {U : Addr → Prop}, St wr gi (v :: vs) s → (∀ b, U b → (∃ o, s.heap.get? b = some o) ∧ (W b ∨ h₂.get? b = none)) → ∀ X₁ X₂, wpAny fx.M A (pyNext (.ref I)) (SomeAt fun c s₁ =>
    wpAny fx.M A (letOwnedTupleGo target (.ref I) c) (fun _ s' => GotAt fx U gi (fun wr' s' => St wr' gi vs s') wr s v c s') X₂ s₁) X₁ s
  self : ∀ {wr gi vs s} {Q : Value → Shared → Prop} {X}, St wr gi vs s → Q (.ref I) s → wpAny fx.M A (pyIter (.ref I)) Q X s
  done : ∀ {wr gi s}, St wr gi [] s → ∀ X, wpAny fx.M A (pyNext (.ref I)) (fun o s' => o = none ∧ Chg0 wr gi s s') X s
section
variable {fx : Fix} {A : Around} {W : Addr → Prop} {s : Shared} {X : Value → Shared → Prop}
noncomputable def ownNames : List String := ["enumerate", "zip", "dict_itemiterator", "dict_reverseitemiterator", "odict_iterator", "itertools.zip_longest", "itertools.pairwise"]
theorem go_not {M : Model} {target : Expr} {I : Addr} {c : Value} {o : Obj} {n : String} {Q : Unit → Shared → Prop} (ho : s.heap.get? I = some o) (hc : o.cls = .type n) (hn : ownNames.contains n = false) (q : Q () s) : wpAny M A (letOwnedTupleGo target (.ref I) c) Q X s := by
  have key : wpAny M A (letOwnedTupleGo (.Tuple [] 0 default) (.ref I) c) Q X s := by
    cases c with
    | ref a =>
      refine wpAny_bind (wpAny_load ho ?_)
      rw [hc]
      cases o.data with
      | fields vs =>
        unfold ownNames at hn
        simp only [hn, Bool.false_and, Bool.false_eq_true, if_false]
        exact wpAny_pure q
      | _ => exact wpAny_pure q
    | _ => exact wpAny_pure q
  cases target with
  | Tuple => exact key
  | List => exact key
  | _ => exact wpAny_pure q
theorem drop_cons {α : Type} {l : List α} {i : Nat} {v : α} {vs : List α} (h : l.drop i = v :: vs) : l[i]? = some v ∧ l.drop (i + 1) = vs ∧ i < l.length := by
  have h1 : l[i]? = some v := by
    have := List.getElem?_drop (xs := l) (i := i) (j := 0)
    rw [h] at this
    simpa using this.symm
  refine ⟨h1, ?_, ?_⟩
  · rw [← List.drop_drop, h]; rfl
  · have := (List.getElem?_eq_some_iff.mp h1).1
    exact this
theorem drop_nil {α : Type} {l : List α} {i : Nat} (h : l.drop i = []) (hi : i ≤ l.length) : i = l.length := by
  have := List.drop_eq_nil_iff.mp h
  omega
theorem Chg.of_heap {I : Addr} {gi : Nat → Prop} {h' : Heap} {tk : Nat} (hk : ∀ b o, b ∉ [I] → s.heap.get? b = some o → h'.get? b = some o) (hl : ∃ o, h'.get? I = some o) : Chg (· = I) (· = I) gi s { s with heap := h', toks := tk } :=
  ⟨⟨fun b o hb e => hk b o (by simpa using hb) e, fun _ _ _ e => e, fun e => e, rfl⟩, fun _ q => q, fun _ q => .inl q, fun b q => by subst q; exact hl⟩
inductive WkSt (I : Addr) (n : Nat) (vs₀ : List V) (StW : Nat → Heap → Prop) : (Addr → Prop) → (Nat → Prop) → List V → Shared → Prop
  | mk (gi : Nat → Prop) (vs : List V) (s : Shared) (i : Nat) : vs₀.drop i = vs → i ≤ n → StW i s.heap → WkSt I n vs₀ StW (· = I) gi vs s
theorem itr_walk {h₂ : Heap} {I : Addr} {n : Nat} {P : Nat → Value → Prop} {StW : Nat → Heap → Prop} {target : Expr} {vs₀ : List V} (Wk : Walks fx.prog fx.w A I [I] [I] n P StW)
    (hc : ∀ i h, StW i h → ∃ o nme, h.get? I = some o ∧ o.cls = .type nme ∧ ownNames.contains nme = false) (hn : vs₀.length = n) (hP : ∀ i v c, vs₀[i]? = some v → P i c → ∀ W h, RepV fx W h v c) :
    Itr fx A W h₂ I target (WkSt I n vs₀ StW) where
  live := fun st b q => match st with
    | .mk _ _ _ i _ _ st => let ⟨o, _, ho, _⟩ := hc _ _ st; ⟨o, (q : b = I) ▸ ho⟩
  frame := fun st hk _ => match st with
    | .mk _ _ _ i h1 h2 st => .mk _ _ _ i h1 h2 (Wk.frame _ _ _ st fun b hb o e => hk b o (.inl (List.mem_singleton.mp hb)) e)
  item := fun st _ X₁ X₂ => match st with
    | .mk _ _ _ i h1 h2 st => by
      obtain ⟨e1, e2, e3⟩ := drop_cons h1
      refine Wk.item i _ _ _ (by omega) st fun c h' tk hp st' hk => .mk c _ ?_
      obtain ⟨o, nme, ho, ho1, ho2⟩ := hc _ _ st'
      exact go_not ho ho1 ho2 (.mk _ (hP i _ c e1 hp _ _) (.mk _ _ _ (i + 1) e2 (by omega) st') (.of_heap hk ⟨o, ho⟩))
  self := fun st q => match st with
    | .mk _ _ _ i h1 h2 st => Wk.self i _ _ _ st q
  done := fun st X => match st with
    | .mk _ _ _ i h1 h2 st' => by
      have hi := drop_nil h1 (by omega)
      rw [hn] at hi; subst hi
      exact Wk.done _ _ _ st' fun h' tk hk => ⟨rfl, fun b o hb e => hk b o (fun q => hb (List.mem_singleton.mp q)) e, fun _ _ _ e => e, fun e => e, rfl⟩
theorem rd_u {h₂ : Heap} {U : Addr → Prop} (hu : ∀ b, U b → (∃ o, s.heap.get? b = some o) ∧ (W b ∨ h₂.get? b = none)) {b : Addr} (q : U b) : ¬ Rd W h₂ b := fun r => by
  rcases (hu b q).2 with w | w
  · exact r.1 w
  · obtain ⟨o, e⟩ := r.2; rw [w] at e; cases e
theorem rd_not {h₂ : Heap} {P : Addr → Prop} {b : Addr} (h : ¬ (¬ Rd W h₂ b ∨ P b)) : Rd W h₂ b := Classical.not_not.mp fun q => h (.inl q)
theorem drop_at {items : Array Value} {i : Nat} (hi : i < items.size) : items.toList.drop i = items[i] :: items.toList.drop (i + 1) := by
  rw [List.drop_eq_getElem_cons (by simpa using hi)]; rfl
inductive LsSt (fx : Fix) (W : Addr → Prop) (h₂ : Heap) (I ax : Addr) (items : Array Value) : (Addr → Prop) → (Nat → Prop) → List V → Shared → Prop
  | mk (gi : Nat → Prop) (vs : List V) (s : Shared) (i : Nat) : i + vs.length = items.size → (s.heap.IsListIter I ax i ∧ s.heap.IsList ax items) → RepL fx (fun b => ¬ Rd W h₂ b ∨ b = I) s.heap vs (items.toList.drop i) → LsSt fx W h₂ I ax items (· = I) gi vs s
theorem itr_list (hh : A.handled = none) {h₂ : Heap} {I ax : Addr} {target : Expr} {items : Array Value} (hne : ax ≠ I) (hax : Rd W h₂ ax) :
    Itr fx A W h₂ I target (LsSt fx W h₂ I ax items) where
  live := fun st b q => match st with
    | .mk _ _ _ i _ ⟨⟨o, ho, _⟩, _⟩ _ => ⟨o, (q : b = I) ▸ ho⟩
  frame := fun st hk _ => match st with
    | .mk _ _ _ i h1 st hl => .mk _ _ _ i h1 ((Walks.list (prog := fx.prog) (w := fx.w) (A := A) hh I ax hne items).frame _ _ _ st (fun b hb o e => hk b o ((List.mem_cons.mp hb).imp id fun hb => by rw [List.mem_singleton.mp hb]; exact hax) e)) (hl.move fx fun b o hb e => ⟨hb, hk b o (.inr (rd_not (P := (· = I)) hb)) e⟩)
  item := fun {wr gi v vs s U} st hu X₁ X₂ => match st with
    | .mk _ _ _ i h1 st hl => by
      have hi : i < items.size := by rw [List.length_cons] at h1; omega
      rw [drop_at hi] at hl
      obtain ⟨hv, hl⟩ : RepV fx (fun b => ¬ Rd W h₂ b ∨ b = I) s.heap v items[i] ∧ RepL fx (fun b => ¬ Rd W h₂ b ∨ b = I) s.heap vs (items.toList.drop (i + 1)) := match hl with | .mk _ _ a b => ⟨a, b⟩
      refine (Walks.list (prog := fx.prog) (w := fx.w) (A := A) hh I ax hne items).item i _ _ _ hi st fun c' h' tk hp st' hk => .mk c' _ ?_
      have hp : items[i]? = some c' := hp
      rw [Array.getElem?_eq_getElem hi] at hp
      cases hp
      obtain ⟨o, ho, hc, hd'⟩ := st'.1
      have mv : Mv (fun b => ¬ Rd W h₂ b ∨ b = I) (fun b => ¬ Rd W h₂ b ∨ b = I) s.heap h' := fun b o hb e => ⟨hb, hk b o (fun q => hb (.inr (List.mem_singleton.mp q))) e⟩
      exact go_not ho hc (by decide) (.mk (· = I) (hv.move fx fun b o hb e => ⟨fun q => q.elim (fun q => hb (.inl (rd_u hu q))) fun q => hb (.inr q), (mv b o hb e).2⟩) (.mk _ _ _ (i + 1) (by rw [List.length_cons] at h1; omega) st' (hl.move fx mv)) (.of_heap hk ⟨o, ho⟩))
  self := fun st q => match st with
    | .mk _ _ _ i h1 st hl => (Walks.list (prog := fx.prog) (w := fx.w) (A := A) hh I ax hne items).self i _ _ _ st q
  done := fun st X => match st with
    | .mk _ _ _ i h1 st hl => by
      have h1 : i = items.size := h1
      subst h1
      exact (Walks.list (prog := fx.prog) (w := fx.w) (A := A) hh I ax hne items).done _ _ _ st fun h' tk hk => ⟨rfl, fun b o hb e => hk b o (fun q => hb (List.mem_singleton.mp q)) e, fun _ _ _ e => e, fun e => e, rfl⟩
inductive EnSt (fx : Fix) (W : Addr → Prop) (h₂ : Heap) (e it ax : Addr) (items : Array Value) : (Addr → Prop) → (Nat → Prop) → List V → Shared → Prop
  | mk (gi : Nat → Prop) (s : Shared) (i : Nat) (us : List V) (old : Value) : i + us.length = items.size → IsEnum s.heap e it i old → s.heap.IsListIter it ax i → s.heap.IsList ax items → RepL fx (fun b => ¬ Rd W h₂ b ∨ (b = e ∨ b = it)) s.heap us (items.toList.drop i) → EnSt fx W h₂ e it ax items (fun b => b = e ∨ b = it) gi (enumL i us) s
theorem itr_enum (hh : A.handled = none) {h₂ : Heap} {e it ax : Addr} {ts : List Expr} {kd : Nat} {tp : Pos} {items : Array Value} (hei : e ≠ it) (hae : ax ≠ e) (hne : ax ≠ it) (hax : Rd W h₂ ax) :
    Itr fx A W h₂ e (.Tuple ts kd tp) (EnSt fx W h₂ e it ax items) where
  live := fun st b q => match st with
    | .mk _ _ i us old _ h1 ⟨o, ho, _⟩ _ _ => q.elim (fun q => ⟨_, q ▸ h1⟩) fun q => ⟨o, q ▸ ho⟩
  frame := fun st hk _ => match st with
    | .mk _ _ i us old h2 h3 h4 h5 hl => .mk _ _ i us old h2 (hk _ _ (.inl (.inl rfl)) h3) (h4.at fun o q => hk _ o (.inl (.inr rfl)) q) (h5.at fun o q => hk _ o (.inr hax) q) (hl.move fx fun b o hb e' => ⟨hb, hk b o (.inr (rd_not (P := fun b => b = e ∨ b = it) hb)) e'⟩)
  item := fun {wr gi v vs s U} st hu X₁ X₂ => by
    generalize hw : v :: vs = w at st
    obtain ⟨_, _, i, us, old, h2, h3, h4, h5, hl⟩ := st
    cases us with
    | nil => cases hw
    | cons u us =>
      cases hw
      have hi : i < items.size := by rw [List.length_cons] at h2; omega
      rw [drop_at hi] at hl
      obtain ⟨hv, hl⟩ : RepV fx (fun b => ¬ Rd W h₂ b ∨ (b = e ∨ b = it)) s.heap u items[i] ∧ RepL fx (fun b => ¬ Rd W h₂ b ∨ (b = e ∨ b = it)) s.heap us (items.toList.drop (i + 1)) := match hl with | .mk _ _ a b => ⟨a, b⟩
      refine wpAny_pyNext_enum_item h3 h4 h5 (Array.getElem?_eq_getElem hi) hei fun h' k1 k2 k3 k4 k5 => .mk _ _ (wpAny_letOwnedTupleGo_enum k1 fun h'' k6 k7 => ?_)
      have kk : ∀ b o, b ≠ e → b ≠ it → s.heap.get? b = some o → h''.get? b = some o := fun b o q1 q2 q => (k7.2 b q1).trans (k5 b o q1 q2 q)
      have mv : Mv (fun b => ¬ Rd W h₂ b ∨ (b = e ∨ b = it)) (fun b => ¬ Rd W h₂ b ∨ (b = e ∨ b = it)) s.heap h'' := fun b o hb q => ⟨hb, kk b o (fun z => hb (.inr (.inl z))) (fun z => hb (.inr (.inr z))) q⟩
      have nw : ∀ b o, s.heap.get? b = some o → s.heap.objs.size ≠ b := fun b o q z => Nat.lt_irrefl _ (Heap.lt_size (z ▸ q))
      have hnew : s.heap.objs.size ≠ e := nw _ _ h3
      obtain ⟨oi, hoi, roi⟩ := k2
      have hit : h''.get? it = some oi := (k7.2 it hei.symm).trans hoi
      refine .mk _ (.mk _ _ 0 (fun q => ?_) ((k7.2 _ hnew).trans k3) (.mk _ _ int_v (.one (hv.move fx fun b o hb q => ⟨fun z => z.elim (fun z => hb (.inl (rd_u hu z))) fun z => hb (.inr z), (mv b o hb q).2⟩)))) (.mk _ _ (i + 1) us _ (by rw [List.length_cons] at h2; omega) (by exact_mod_cast k6) ⟨oi, hit, roi⟩ (h5.at fun o q => kk _ o hae hne q) (hl.move fx mv)) ⟨⟨fun b o hb q => kk b o (fun z => hb (.inl z)) (fun z => hb (.inr z)) q, fun _ _ _ q => q, fun q => q, rfl⟩, fun _ q => q, fun _ q => .inl q, fun b q => q.elim (fun q => ⟨_, q ▸ k6⟩) fun q => ⟨oi, q ▸ hit⟩⟩
      exact q.elim (fun q => let ⟨o, ho⟩ := (hu _ q).1; nw _ o ho rfl) fun q => q.elim hnew fun q => let ⟨o, ho, _⟩ := h4; nw _ o ho q
  self := fun st q => match st with
    | .mk _ _ i us old h2 h3 h4 h5 hl => wpAny_pyIter_enum h3 q
  done := fun {wr gi s} st X => by
    generalize hw : ([] : List V) = w at st
    obtain ⟨_, _, i, us, old, h2, h3, h4, h5, hl⟩ := st
    cases us with
    | nil => exact wpAny_pyNext_enum_end hh h3 h4 h5 (Array.getElem?_eq_none (Nat.le_of_eq h2.symm)) fun h' k => ⟨rfl, fun b o hb q => k b o (fun z => hb (.inr z)) q, fun _ _ _ q => q, fun q => q, rfl⟩
    | cons u us => cases hw
end
end Mine
end
section
open PySem PySem.Calls PyProof.Rows PySem.W
set_option maxRecDepth 10000
namespace Mine
section
variable {fx : Fix} {r : Evs} {n : Nat} {A : Around} {env : Env} {c : Cx} {Wl W : Addr → Prop} {ow : List (Str × Addr)} {ρ : Rho} {s : Shared} {X : Value → Shared → Prop}
inductive RngAt (h : Heap) (l : List V) : Value → Prop
  | mk (rr : Addr) (a b st : Int) (t u w : Tok) : IsRange h rr a b st t u w → Builtin.Range.small a b st = true → Builtin.Range.rangeSize a b st = (l.length : Int) → l.length ≤ 100000 → (∀ (i : Nat) v, l[i]? = some v → v = .int (a + i * st)) → RngAt h l (.ref rr)
theorem range_get {n i : Nat} {f : Nat → V} {v : V} (q : ((List.range n).map f)[i]? = some v) : v = f i := by
  rw [List.getElem?_map] at q
  refine mapE q fun j hj => ?_
  have := (List.getElem?_eq_some_iff.mp hj).2
  rw [List.getElem_range] at this
  rw [this]
theorem rng_up {a b : Int} (ha : smallI a = true) (hb : smallI b = true) (hn : lenOk (b - a).toNat = true) {h : Heap} {rr : Addr} {t u w : Tok} (hr : IsRange h rr a b 1 t u w) : RngAt h (rangeL a b) (.ref rr) := by
  have ha := smallI_iff ha; have hb := smallI_iff hb; have hn := lenOk_iff hn
  have hl : (rangeL a b).length = (b - a).toNat := by rw [rangeL, List.length_map, List.length_range]
  refine .mk rr a b 1 t u w hr ?_ ?_ (by rw [hl]; exact hn) fun i v q => (range_get q).trans (by rw [Int.mul_one])
  · unfold Builtin.Range.small Builtin.Range.rangeFitsLong
    simp only [rangeSize_one, (by decide : (2 : Int) ^ 63 = 9223372036854775808), Bool.and_eq_true, Bool.or_eq_true, decide_eq_true_eq, beq_iff_eq]
    split <;> simp <;> omega
  · rw [rangeSize_one, hl]; split <;> omega
theorem rng_down {a b : Int} (ha : smallI a = true) (hb : smallI b = true) (hn : lenOk (a - b).toNat = true) {h : Heap} {rr : Addr} {t u w : Tok} (hr : IsRange h rr a b (-1) t u w) : RngAt h (rangeDown a b) (.ref rr) := by
  have ha := smallI_iff ha; have hb := smallI_iff hb; have hn := lenOk_iff hn
  have hl : (rangeDown a b).length = (a - b).toNat := by rw [rangeDown, List.length_map, List.length_range]
  have rs : Builtin.Range.rangeSize a b (-1) = if a > b then a - b else 0 := by
    unfold Builtin.Range.rangeSize
    simp
  refine .mk rr a b (-1) t u w hr ?_ ?_ (by rw [hl]; exact hn) fun i v q => (range_get q).trans (by congr 1; omega)
  · unfold Builtin.Range.small Builtin.Range.rangeFitsLong
    simp only [rs, (by decide : (2 : Int) ^ 63 = 9223372036854775808), Bool.and_eq_true, Bool.or_eq_true, decide_eq_true_eq, beq_iff_eq]
    split <;> simp <;> omega
  · rw [rs, hl]; split <;> omega
theorem e_range (Z : Stat fx) (S : Snd fx r n) (R : Room A n) (F : FR fx env c Wl ow ρ s.heap) {args : List Expr} {p pos : Pos} {t : Bool} {vs l : List V} {Q : Value → Shared → Prop} (hg : isGl c (nm "range") = true) (e1 : evL r c ρ args = some (t, vs)) (e2 : rangeV vs = some l) (k : ∀ v s', Ext s s' → RngAt s'.heap l v → Q v s') :
    wpAny fx.M A (eval (.Call (.Name (nm "range") p) args [] pos) env) Q X s := by
  obtain ⟨z1, z2⟩ := Z.bi (nm "range") (.type "range") (by decide)
  refine Call_Name rfl (built_at F hg z1 z2 (call_any S R F e1 (fun s' _ => keep_plain ⟨_, .inr rfl⟩) fun cvs s' x F1 hl => ?_))
  have hl := hl.t F.wl
  clear e1
  cases vs with
  | nil => exact no e2
  | cons v vs =>
    refine bindE e2 fun a ea e => hl.cons fun c cs h hl => h.intO ea fun ta => ?_
    cases vs with
    | nil =>
      have hl : cs = [] := hl
      subst hl
      revert k
      exact iteY e fun q e => someE e fun k => andE q fun q1 q2 => call_range_1 (k _ _ (x.trans .push) (rng_up rfl q1 (by rw [Int.sub_zero]; exact q2) (Heap.get?_push_size _ rfl)))
    | cons v2 vs =>
      refine bindE e fun b eb e => hl.cons fun c cs h hl => h.intO eb fun tb => ?_
      cases vs with
      | nil =>
        have hl : cs = [] := hl
        subst hl
        revert k
        exact iteY e fun q e => someE e fun k => andE q fun q1 q => andE q fun q2 q3 => call_range_2 (k _ _ (x.trans .push) (rng_up q1 q2 q3 (Heap.get?_push_size _ rfl)))
      | cons v3 vs =>
        refine bindE e fun d ed e => hl.cons fun c cs h hl => h.intO ed fun td => iteY e fun q0 e => ?_
        revert hl
        refine nilE (Q := fun vs => RepTL fx Wl (Wf Wl ow) s'.heap vs cs → _) q0 fun hl => ?_
        have hl : cs = [] := hl
        subst hl
        revert k
        refine iteY e fun q e => someE e fun k => andE q fun q0 q => andE q fun q1 q => andE q fun q2 q3 => ?_
        have := decT q0
        subst this
        have h1 := smallI_iff q1
        have h2 := smallI_iff q2
        exact call_range_3 (by decide) (k _ _ (x.trans .push) (rng_down q1 q2 q3 (Heap.get?_push_size _ rfl))) (.inl (PyProof.noPylong_small (by omega)))
inductive ItPost (fx : Fix) (A : Around) (W : Addr → Prop) (s : Shared) (target : Expr) (vs : List V) : Value → Shared → Prop
  | mk (s₂ : Shared) (I : Addr) (St : (Addr → Prop) → (Nat → Prop) → List V → Shared → Prop) (wr : Addr → Prop) (gi : Nat → Prop) : Itr fx A W s₂.heap I target St → St wr gi vs s₂ → Ext s s₂ → (∀ b, wr b → s.heap.get? b = none) → (∀ (i : Nat), gi i → s.gens[i]? = none) → ItPost fx A W s target vs (.ref I) s₂
theorem size_none {s₀ : Shared} (x : Ext s₀ s) {b : Addr} (q : b = s.heap.objs.size) : s₀.heap.get? b = none := by
  subst q
  cases e : s₀.heap.get? s.heap.objs.size with
  | none => rfl
  | some o => exact absurd (Heap.lt_size (x.keep _ _ e)) (Nat.lt_irrefl _)
theorem it_of_range (hh : A.handled = none) {target : Expr} {l : List V} {v : Value} {s₀ : Shared} (x : Ext s₀ s) (h : RngAt s.heap l v) : wpAny fx.M A (pyIter v) (ItPost fx A W s₀ target l) X s := by
  cases h with
  | mk rr a b st t u w h1 h2 h3 h4 h5 =>
    refine wpAny_pyIter_range h1 h2 (.mk _ s.heap.objs.size _ (· = s.heap.objs.size) (fun _ => False) (itr_walk (Walks.range (prog := fx.prog) (w := fx.w) (A := A) hh s.heap.objs.size a st l.length) (fun i h q => ⟨_, _, q, rfl, by decide⟩) rfl (fun i v c e ⟨t, q⟩ W h => by rw [h5 i v e, q]; exact int_v)) (.mk _ _ _ 0 rfl (Nat.zero_le _) ?_) (x.trans .push) (fun b q => size_none x q) fun _ q => q.elim)
    rw [show a + ((0 : Nat) : Int) * st = a by simp, show ((l.length : Int) - ((0 : Nat) : Int)) = Builtin.Range.rangeSize a b st by rw [h3]; simp]
    exact Heap.get?_push_size _ rfl
theorem new_ne {h : Heap} {a : Addr} {o : Obj} (e : h.get? a = some o) : a ≠ h.objs.size := fun q => Nat.lt_irrefl _ (Heap.lt_size (q ▸ e))
theorem it_of_list (hh : A.handled = none) {target : Expr} {l : List V} {v : Value} {s₀ : Shared} (x : Ext s₀ s) (h : RepV fx W s.heap (.lst l) v) : wpAny fx.M A (pyIter v) (ItPost fx A W s₀ target l) X s := by
  refine h.lst fun a its k hW ho hl z => ?_
  have hL : s.heap.IsList a its := ⟨_, ho, rfl, k, rfl⟩
  have kp : Kp s.heap (s.heap.push { cls := .type "list_iterator", data := .fields #[.ref a, .int 0 0] }) := Kp.push
  exact wpAny_pyIter_list hL (.mk _ s.heap.objs.size _ (· = s.heap.objs.size) (fun _ => False) (itr_list hh (new_ne ho) ⟨hW, _, kp _ _ ho⟩) (.mk _ _ _ 0 (by rw [z]; exact Nat.zero_add _) ⟨⟨_, Heap.get?_push_size _ rfl, rfl, rfl⟩, hL.at fun o e => kp _ o e⟩ (hl.move fx fun b o hb e => ⟨fun q => q.elim (fun q => q ⟨hb, o, kp b o e⟩) (new_ne e), kp b o e⟩)) (x.trans .push) (fun b q => size_none x q) fun _ q => q.elim)
theorem it_of_str (hh : A.handled = none) {target : Expr} {l : List Nat} {t : Tok} {s₀ : Shared} (x : Ext s₀ s) : wpAny fx.M A (pyIter (.str ⟨l.toArray⟩ t)) (ItPost fx A W s₀ target (l.map fun ch => .str [ch])) X s := by
  refine wpAny_pyIter_strU ?_
  have hv : ∀ (i : Nat) (v : V) (c : Value), (l.map fun ch => V.str [ch])[i]? = some v → SignAt ⟨l.toArray⟩ i c → ∀ W h, RepV fx W h v c := fun i v c e ⟨ch, u, q1, q2⟩ W h => by
    rw [List.getElem?_map] at e
    refine mapE e fun ch' e1 => ?_
    have : l[i]? = some ch := List.getElem?_toArray.symm.trans q1
    rw [this] at e1; cases e1
    subst q2
    exact .mk u
  have hs : (⟨l.toArray⟩ : Str).cps.size = (l.map fun ch => V.str [ch]).length := by simp
  unfold strIterType
  split
  · exact .mk _ s.heap.objs.size _ (· = s.heap.objs.size) (fun _ => False) (itr_walk (Walks.strAscii (prog := fx.prog) (w := fx.w) (A := A) hh s.heap.objs.size ⟨l.toArray⟩ t) (fun i h ⟨o, ho, hc, _⟩ => ⟨o, _, ho, hc, by decide⟩) hs.symm hv) (.mk _ _ _ 0 rfl (Nat.zero_le _) ⟨_, Heap.get?_push_size _ rfl, rfl, rfl⟩) (x.trans .push) (fun b q => size_none x q) fun _ q => q.elim
  · exact .mk _ s.heap.objs.size _ (· = s.heap.objs.size) (fun _ => False) (itr_walk (Walks.strWide (prog := fx.prog) (w := fx.w) (A := A) hh s.heap.objs.size ⟨l.toArray⟩ t) (fun i h ⟨o, ho, hc, _⟩ => ⟨o, _, ho, hc, by decide⟩) hs.symm hv) (.mk _ _ _ 0 rfl (Nat.zero_le _) ⟨_, Heap.get?_push_size _ rfl, rfl, rfl⟩) (x.trans .push) (fun b q => size_none x q) fun _ q => q.elim
theorem it_of_enum (hh : A.handled = none) {ts : List Expr} {kd : Nat} {tp : Pos} {l : List V} {v : Value} {s₀ : Shared} (x : Ext s₀ s) (h : RepV fx W s.heap (.lst l) v) {X₁ X₂ : Value → Shared → Prop} :
    wpAny fx.M A (call (.type "enumerate") [v]) (fun v s₁ => wpAny fx.M A (pyIter v) (ItPost fx A W s₀ (.Tuple ts kd tp) (enumL 0 l)) X₂ s₁) X₁ s := by
  refine h.lst fun a its k hW ho hl z => ?_
  have hL : s.heap.IsList a its := ⟨_, ho, rfl, k, rfl⟩
  refine call_enumerate_list hL fun h' h1 h2 h3 kp => wpAny_pyIter_enum h1 ?_
  have n1 : ∀ b o, s.heap.get? b = some o → b ≠ s.heap.objs.size + 1 := fun b o e q => Nat.lt_irrefl _ (Nat.lt_of_succ_lt (Heap.lt_size (q ▸ e)))
  refine .mk _ (s.heap.objs.size + 1) _ (fun b => b = s.heap.objs.size + 1 ∨ b = s.heap.objs.size) (fun _ => False) (itr_enum hh (Nat.succ_ne_self _) (n1 _ _ ho) (new_ne ho) ⟨hW, _, kp _ _ ho⟩) (.mk _ _ 0 l _ (by rw [z]; exact Nat.zero_add _) (by exact_mod_cast h1) h2 (hL.at fun o e => kp _ o e) (hl.move fx fun b o hb e => ⟨fun q => q.elim (fun q => q ⟨hb, o, kp b o e⟩) fun q => q.elim (n1 _ _ e) (new_ne e), kp b o e⟩)) (x.trans (.heap kp)) (fun b q => q.elim (fun q => ?_) fun q => size_none x q) fun _ q => q.elim
  cases e : s₀.heap.get? b with
  | none => rfl
  | some o => exact absurd q (n1 _ _ (x.keep _ _ e))
noncomputable def GenOk (fx : Fix) : Prop := ∃ a, fx.mg (nm "_iter_escaped_chars") = some (.ref a) ∧ keepIn fx.K (.ref a) = true ∧
  ∀ {A : Around} {W : Addr → Prop} {s s₀ : Shared} {l : List Nat} {t : Tok} {target : Expr} {n : Nat} {X₁ X₂ : Value → Shared → Prop}, Room A (n + 1) → Gd fx W s.heap → Ext s₀ s → lenOk l.length = true →
    wpAny fx.M A (call (.ref a) [.str ⟨l.toArray⟩ t]) (fun v s₁ => wpAny fx.M A (pyIter v) (ItPost fx A W s₀ target (escItems 0 false l)) X₂ s₁) X₁ s
theorem not_set {iter : Expr} (h : isSet iter = false) (x : Value) : foldedSetIterable iter env x = pure x := by
  cases iter with
  | Set => cases h
  | _ => rfl
theorem callI {e : Expr} {p : Str × List Expr} {P : Expr → Prop} (h : callN e = some p) (k : ∀ q pos, P (.Call (.Name p.1 q) p.2 [] pos)) : P e := by
  cases e with
  | Call f args kws pos => exact iteY h fun h1 h => mapE h (Q := fun (p : Str × List Expr) => (∀ q pos, P (.Call (.Name p.1 q) p.2 [] pos)) → _) (fun x e1 k => nilE (Q := fun kws => P (.Call f args kws pos)) h1 (nameE (Q := fun f => P (.Call f args [] pos)) e1 fun q => k q pos)) k
  | _ => exact no h
theorem tupleI {e : Expr} {P : Expr → Prop} (h : isTuple e = true) (k : ∀ a b c, P (.Tuple a b c)) : P e := by
  cases e with
  | Tuple a b c => exact k a b c
  | _ => cases h
noncomputable def ItS (fx : Fix) (A : Around) (env : Env) (W : Addr → Prop) (s : Shared) (target : Expr) (vs : List V) (iter : Expr) : Prop := ∀ X₁ X₂, wpAny fx.M A (eval iter env) (fun xv s₁ => wpAny fx.M A (pyIter xv) (ItPost fx A W s target vs) X₂ s₁) X₁ s
theorem usual_s (S : Snd fx r n) (R : Room A n) (F : FR fx env c Wl ow ρ s.heap) {target iter : Expr} {vs : List V} (h : (pureE r c ρ iter).bind itV = some vs) : ItS fx A env (Wf Wl ow) s target vs iter := by
  refine fun X₁ X₂ => bindE h fun v e1 h => S.evV R F e1 fun cv s₁ x1 F1 hv => ?_
  cases v with
  | lst l => exact someE h (it_of_list R.handled x1 hv)
  | str l => exact match hv with | .mk t => someE h (it_of_str R.handled x1)
  | _ => exact no h
theorem it_sound (Z : Stat fx) (G : GenOk fx) (S : Snd fx r n) (R : Room A (n + 1)) (F : FR fx env c Wl ow ρ s.heap) {target iter : Expr} {vs : List V} (h : itE r c ρ target iter = some vs) :
    isSet iter = false ∧ ItS fx A env (Wf Wl ow) s target vs iter := by
  have R0 := R.le (Nat.le_succ n)
  refine iteN h fun hs h => ⟨hs, ?_⟩
  revert h
  cases q : callN iter with
  | none => exact fun h => usual_s S R0 F h
  | some p =>
    refine fun h => iteY h fun hg h => andE hg fun hg _ => callI (P := fun iter => itC r c ρ target iter p.1 p.2 = some vs → ItS fx A env (Wf Wl ow) s target vs iter) q (fun q pos h X₁ X₂ => ?_) h
    refine iteB h (fun hf h => ?_) fun _ h => iteB h (fun hf h => ?_) fun _ h => iteB h (fun hf h => ?_) fun _ h => usual_s S R0 F h X₁ X₂
    · rw [eq_of_beq hf] at hg ⊢
      exact bindP h fun t us e1 e2 => e_range Z S R0 F hg e1 e2 fun cv s₁ x h => it_of_range R.handled x h
    · rw [eq_of_beq hf] at hg ⊢
      obtain ⟨z1, z2⟩ := Z.bi (nm "enumerate") (.type "enumerate") (by decide)
      refine bindE h fun a ea h => iteY h fun hz h => andE hz fun ht hs => tupleI (P := fun target => wpAny fx.M A _ (fun xv s₁ => wpAny fx.M A (pyIter xv) (ItPost fx A (Wf Wl ow) s target vs) X₂ s₁) X₁ s) ht fun ts k tp => bindE h fun v e1 h => mapE h fun l e2 => ?_
      refine Call_Name rfl (built_at F hg z1 z2 (oneE ea (call_any S R0 F (evL_of_one (pureI e1) (notT hs)) (fun s' _ => keep_plain ⟨_, .inr rfl⟩) fun cvs s' x F1 hl => RepL.one' hl fun cv hv => it_of_enum R.handled x (lstE (Q := fun v => RepV fx (Wf Wl ow) s'.heap v cv → RepV fx (Wf Wl ow) s'.heap (.lst l) cv) e2 id hv))))
    · rw [eq_of_beq hf] at hg ⊢
      obtain ⟨ga, g1, g2, g3⟩ := G
      refine bindE h fun a ea h => iteN h fun hs h => bindP h fun t v e1 h => bindE h fun l e2 h => iteY h fun hz h => someE h ?_
      exact Call_Name rfl (glob_at F hg g1 (oneE ea (call_any S R0 F (evL_of_one e1 hs) (fun s' x => keeps_K g2 _ (F.ext x).base.X) fun cvs s' x F1 hl => (hl.t F.wl).one fun cv hv => hv.strO e2 fun u => g3 R F1.gd x hz)))
end
end Mine
end
section
open PySem PySem.Calls PyProof.Rows PySem.W
set_option maxRecDepth 10000
namespace Mine
theorem find_self {ρ : Rho} {x : Str} {b : Bd} : find (upd ρ x b) x = some b := by
  unfold find upd; rw [List.lookup_cons]; simp
theorem find_other {ρ : Rho} {x y : Str} {b : Bd} (h : y ≠ x) : find (upd ρ x b) y = find ρ y := by
  unfold find upd
  rw [List.lookup_cons]
  have : (y == x) = false := by simpa using h
  rw [this]
  show List.lookup y (ρ.filter fun p => !(p.1 == x)) = _
  induction ρ with
  | nil => rfl
  | cons p r ih =>
    obtain ⟨k, v⟩ := p
    rw [List.filter_cons]
    by_cases hk : k = x
    · subst hk
      simp only [beq_self_eq_true, Bool.not_true, Bool.false_eq_true, if_false, List.lookup_cons, this]
      exact ih
    · have h2 : (k == x) = false := by simpa using hk
      simp only [h2, Bool.not_false, if_true, List.lookup_cons]
      split
      · rfl
      · exact ih
theorem ns_unique {h : Heap} {a : Addr} {m m' : Str → Option Value} (x : h.Ns a m) (y : h.Ns a m') : m = m' := by
  obtain ⟨o, es, ep, e1, e2, _, e3⟩ := x
  obtain ⟨o', es', ep', f1, f2, _, f3⟩ := y
  rw [e1] at f1; cases f1
  rw [e2] at f2; cases f2
  funext n
  rw [← e3, ← f3]
section
variable {fx : Fix} {r : Evs} {n : Nat} {A : Around} {env : Env} {c : Cx} {Wl W : Addr → Prop} {ow : List (Str × Addr)} {ρ : Rho} {s : Shared} {X : Value → Shared → Prop}
theorem mv_same {W : Addr → Prop} {h h' : Heap} {a : Addr} (ha : W a) (sb : Heap.SameBut a h h') : Mv W W h h' := fun b o hb e => ⟨hb, (sb.2 b fun q => hb (q ▸ ha)).trans e⟩
theorem Gd.same {W : Addr → Prop} {h h' : Heap} {a : Addr} (x : Gd fx W h) (ha : W a) (sb : Heap.SameBut a h h') (hl : ∃ o, h'.get? a = some o) : Gd fx W h' :=
  ⟨x.b0, fun b o e => ⟨(x.old b o e).1, (sb.2 b fun q => (x.old b o e).1 (q ▸ ha)).trans (x.old b o e).2⟩, fun b q => by
    by_cases hb : b = a
    · subst hb; exact hl
    · obtain ⟨o, e⟩ := x.alloc b q; exact ⟨o, (sb.2 b hb).trans e⟩⟩
inductive OwnP (fx : Fix) (Wl : Addr → Prop) (ow : List (Str × Addr)) (h : Heap) (x : Str) (v : V) : Value → Prop
  | mk (a : Addr) : (ownName x v, a) ∈ ow → OwnAt fx (Wf Wl ow) ow x h a v → OwnP fx Wl ow h x v (.ref a)
noncomputable def PendB (fx : Fix) (Wl : Addr → Prop) (ow : List (Str × Addr)) (h : Heap) (x : Str) (cv : Value) : Bd → Prop
  | .val v => RepV fx (Wf Wl ow) h v cv
  | .own v => OwnP fx Wl ow h x v cv
theorem PendB.at {env : Env} {h h' : Heap} {x : Str} {cv : Value} {b : Bd} (p : PendB fx Wl ow h x cv b) (a : At env h' x cv) (mv : Mv (Wf Wl ow) (Wf Wl ow) h h') (ko : ∀ y d o, (y, d) ∈ ow → h.get? d = some o → h'.get? d = some o) : BdR fx (Wf Wl ow) ow env h' x b := match b, cv, p, a with
  | .val _, cv, p, a => .mk cv a (RepV.move fx mv _ _ p)
  | .own _, _, .mk d h1 h2, a => .mk d h1 a (h2.move (fun o e => ko _ d o h1 e) (fun d' o m e => ⟨m, ko _ d' o m e⟩) mv)
theorem FR.putB' (F : FR fx env c Wl ow ρ s.heap) {x : Str} {bd : Bd} {cv : Value} {Q : Unit → Shared → Prop} (hk : okK c x = true) (hv : PendB fx Wl ow s.heap x cv bd)
    (q : ∀ s', Stp env ow ow s s' → FR fx env c Wl ow (upd ρ x bd) s'.heap → (c.k.lookup x = some .local → ∀ b o, b ≠ env.locals → s.heap.get? b = some o → s'.heap.get? b = some o) → (∀ b o, ¬ Ws env b → s.heap.get? b = some o → s'.heap.get? b = some o) → s'.heap.objs.size = s.heap.objs.size → Q () s') : wpAny fx.M A (storeName env x cv) Q X s := by
  have hfn : (env.scope.kind == .class || (env.scope.kind == .module && env.locals != env.globals)) = false := by rw [F.kind]; rfl
  obtain ⟨m, hns⟩ := F.ns
  have fin : ∀ (a : Addr) (h' : Heap) (tk : Nat), Ws env a → Heap.SameBut a s.heap h' → (∃ o, h'.get? a = some o) → (∃ m, h'.Ns env.locals m) → (∀ x c, (x, c) ∈ env.cells → ∃ v, h'.IsCell c v) → At env h' x cv → (∀ y w, y ≠ x → At env s.heap y w → At env h' y w) → (c.k.lookup x = some .local → a = env.locals) → Q () { s with heap := h', toks := tk } := by
    intro a h' tk hwa sb hl hns' hcs hat hoth hloc
    have hWa : Wf Wl ow a := .inl (F.ws a hwa)
    have hnw : ∀ y d, (y, d) ∈ ow → d ≠ a := fun y d hm z => F.owl (y, d) hm (z ▸ F.ws a hwa)
    refine q _ ⟨fun b o hb e => (sb.2 b fun z => hb (.inl (z ▸ hwa))).trans e, fun _ _ h => .inl h, fun b o e => ?_, fun _ _ e => e, fun e => e, rfl, fun _ q => q⟩ { F with gd := F.gd.same hWa sb hl, ns := hns', cells := hcs, bind := ?_ } (fun hk b o hb e => (sb.2 b (hloc hk ▸ hb)).trans e) (fun b o hb e => (sb.2 b fun z => hb (z ▸ hwa)).trans e) sb.1
    · by_cases hb : b = a
      · subst hb; exact hl
      · exact ⟨o, (sb.2 b hb).trans e⟩
    · intro y b e
      have ko : ∀ y d o, (y, d) ∈ ow → s.heap.get? d = some o → h'.get? d = some o := fun y d o hm e => (sb.2 d (hnw y d hm)).trans e
      by_cases hy : y = x
      · subst hy
        rw [find_self] at e
        exact Option.some.inj e ▸ hv.at hat (mv_same hWa sb) ko
      · rw [find_other hy] at e
        exact (F.bind y b e).move (fun w => hoth y w hy) (fun d z hm _ => ⟨hm, fun o e => ko z d o hm e⟩) (mv_same hWa sb)
  have hkk : env.kindOf x = some .local ∨ env.kindOf x = some .cell := by
    unfold Env.kindOf; rw [F.names]
    exact (Bool.or_eq_true_iff.mp hk).imp eq_of_beq eq_of_beq
  rcases hkk with hl | hl
  · refine wpAny_storeName_local hl hns (fun h' hn' sb => ?_) hfn
    refine fin env.locals h' _ (.inl rfl) sb (let ⟨o, _, _, ho, _⟩ := hn'; ⟨o, ho⟩) ⟨_, hn'⟩ (fun y a hm => ?_) (.loc _ hl hn' (by simp)) (fun y w hy hat => ?_) fun _ => rfl
    · obtain ⟨w, hw⟩ := F.cells y a hm
      exact ⟨w, hw.sameBut sb (F.cloc y a hm)⟩
    · cases hat with
      | loc m' h1 h2 h3 =>
        have := ns_unique hns h2
        subst this
        exact .loc _ h1 hn' (by simp [hy, h3])
      | cell a h1 h2 h3 => exact .cell a h1 h2 (h3.sameBut sb (F.cloc y a (mem_of_lookup h2)))
  · obtain ⟨a, ha⟩ := F.hascell x (by rw [← F.names]; exact hl)
    have hm := mem_of_lookup ha
    obtain ⟨v₀, hv₀⟩ := F.cells x a hm
    refine wpAny_storeName_cell F.kind hl ha hv₀ fun h' hc' sb => ?_
    refine fin a h' _ (.inr ⟨x, hm⟩) sb (let ⟨o, ho, _⟩ := hc'; ⟨o, ho⟩) ⟨m, hns.sameBut sb (F.cloc x a hm).symm⟩ (fun y b hb => ?_) (.cell a hl ha hc') (fun y w hy hat => ?_) fun hk => by unfold Env.kindOf at hl; rw [F.names, hk] at hl; cases hl
    · by_cases hba : b = a
      · subst hba; exact ⟨_, hc'⟩
      · obtain ⟨w, hw⟩ := F.cells y b hb; exact ⟨w, hw.sameBut sb hba⟩
    · cases hat with
      | loc m' h1 h2 h3 => exact .loc m' h1 (h2.sameBut sb (F.cloc x a hm).symm) h3
      | cell b h1 h2 h3 => exact .cell b h1 h2 (h3.sameBut sb fun z => hy (name_of_addr F.capart (mem_of_lookup h2) (z ▸ hm)))
theorem FR.putB (F : FR fx env c Wl ow ρ s.heap) {x : Str} {bd : Bd} {cv : Value} {Q : Unit → Shared → Prop} (hk : okK c x = true) (hv : PendB fx Wl ow s.heap x cv bd)
    (q : ∀ s', Stp env ow ow s s' → FR fx env c Wl ow (upd ρ x bd) s'.heap → (c.k.lookup x = some .local → ∀ b o, b ≠ env.locals → s.heap.get? b = some o → s'.heap.get? b = some o) → (∀ b o, ¬ Ws env b → s.heap.get? b = some o → s'.heap.get? b = some o) → Q () s') : wpAny fx.M A (storeName env x cv) Q X s := F.putB' hk hv fun s' a b d e _ => q s' a b d e
theorem FR.put (F : FR fx env c Wl ow ρ s.heap) {x : Str} {v : V} {cv : Value} {Q : Unit → Shared → Prop} (hk : okK c x = true) (hv : RepV fx (Wf Wl ow) s.heap v cv)
    (q : ∀ s', Stp env ow ow s s' → FR fx env c Wl ow (upd ρ x (.val v)) s'.heap → (c.k.lookup x = some .local → ∀ b o, b ≠ env.locals → s.heap.get? b = some o → s'.heap.get? b = some o) → Q () s') : wpAny fx.M A (storeName env x cv) Q X s := F.putB hk (bd := .val v) hv fun s' a b d _ => q s' a b d
theorem a_name (F : FR fx env c Wl ow ρ s.heap) {x : Str} {p : Pos} {v : V} {cv : Value} {Q : Unit → Shared → Prop} (hk : okK c x = true) (hv : RepV fx (Wf Wl ow) s.heap v cv)
    (q : ∀ s', Stp env ow ow s s' → FR fx env c Wl ow (upd ρ x (.val v)) s'.heap → (c.k.lookup x = some .local → ∀ b o, b ≠ env.locals → s.heap.get? b = some o → s'.heap.get? b = some o) → Q () s') : wpAny fx.M A (assign (.Name x p) env cv) Q X s := wpAny_assign_Name (F.put hk hv q)
theorem okN_k {x : Str} (h : okN c x = true) : okK c x = true := by
  unfold okN at h
  exact (Bool.and_eq_true_iff.mp h).2
end
end Mine
end
section
open PySem PySem.Calls PyProof.Rows PySem.W
set_option maxRecDepth 10000
namespace Mine
section
variable {fx : Fix} {r : Evs} {n : Nat} {A : Around} {env : Env} {c : Cx} {Wl W : Addr → Prop} {ow ow' : List (Str × Addr)} {ρ : Rho} {s s' : Shared} {X : Value → Shared → Prop}
theorem Stp.refl {env : Env} {ow : List (Str × Addr)} (s : Shared) : Stp env ow ow s s := .of_ext (.refl s)
theorem wf_ws (F : FR fx env c Wl ow ρ s.heap) {b : Addr} (h : ¬ Wf Wl ow b) : ¬ Wf (Ws env) ow b := fun q => h (q.elim (fun q => .inl (F.ws b q)) .inr)
theorem Stp.mv (F : FR fx env c Wl ow ρ s.heap) (st : Stp env ow ow s s') : Mv (Wf Wl ow) (Wf Wl ow) s.heap s'.heap := fun b o hb e => ⟨hb, st.keep b o (wf_ws F hb) e⟩
theorem RepV.stp {v : V} {cv : Value} (x : RepV fx (Wf Wl ow) s.heap v cv) (F : FR fx env c Wl ow ρ s.heap) (st : Stp env ow ow s s') : RepV fx (Wf Wl ow) s'.heap v cv := x.move fx (st.mv F)
theorem RepL.stp {v : List V} {cv : List Value} (x : RepL fx (Wf Wl ow) s.heap v cv) (F : FR fx env c Wl ow ρ s.heap) (st : Stp env ow ow s s') : RepL fx (Wf Wl ow) s'.heap v cv := x.move fx (st.mv F)
theorem goE {t : Expr} {ts : List Expr} {v : V} {vs : List V} {ρ ρ' : Rho} {P : Expr → Prop} (h : goT c ρ (t :: ts) (v :: vs) = some ρ') (k : ∀ x p, okN c x = true → goT c (upd ρ x (.val v)) ts vs = some ρ' → P (.Name x p)) : P t :=
  bindE h fun x e1 h => iteY h fun hk h => nameE e1 fun p => k x p hk h
theorem go_len : ∀ {ts : List Expr} {vs : List V} {ρ ρ' : Rho}, goT c ρ ts vs = some ρ' → ts.length = vs.length ∧ (∀ t ∈ ts, ∃ x p, t = .Name x p)
  | [], [], _, _, _ => ⟨rfl, fun _ h => (nomatch h)⟩
  | [], _ :: _, _, _, h => no h
  | t :: ts, [], _, _, h => no h
  | t :: ts, v :: vs, ρ, ρ', h => goE (P := fun t => (t :: ts).length = _ ∧ (∀ t' ∈ t :: ts, ∃ x p, t' = .Name x p)) h fun x p _ h => ⟨congrArg (· + 1) (go_len h).1, fun t ht => (List.mem_cons.mp ht).elim (fun q => ⟨x, p, q⟩) ((go_len h).2 t)⟩
theorem each_names : ∀ {ts : List Expr}, (∀ t ∈ ts, ∃ x p, t = .Name x p) → assignEach ts env = ts.map fun t => (false, assign t env)
  | [], _ => rfl
  | t :: ts, h => by
    obtain ⟨x, p, rfl⟩ := h t List.mem_cons_self
    show (false, assign (.Name x p) env) :: assignEach ts env = _
    rw [each_names fun t ht => h t (List.mem_cons_of_mem _ ht)]
    rfl
noncomputable def OnlyL (env : Env) (s s' : Shared) : Prop := ∀ b o, b ≠ env.locals → s.heap.get? b = some o → s'.heap.get? b = some o
structure GPost (fx : Fix) (env : Env) (c : Cx) (Wl : Addr → Prop) (ow : List (Str × Addr)) (ρ' : Rho) (L : Prop) (s s' : Shared) : Prop where
  stp : Stp env ow ow s s'
  fr : FR fx env c Wl ow ρ' s'.heap
  only : L → OnlyL env s s'
theorem go_sound : ∀ {ts : List Expr} {vs : List V} {cs : List Value} {ρ ρ' : Rho} {s : Shared}, FR fx env c Wl ow ρ s.heap → RepL fx (Wf Wl ow) s.heap vs cs → goT c ρ ts vs = some ρ' →
    wpAny fx.M A (assignInOrder (ts.map fun t => assign t env) cs) (fun _ => GPost fx env c Wl ow ρ' (∀ x p, .Name x p ∈ ts → c.k.lookup x = some .local) s) X s
  | [], [], cs, ρ, ρ', s, F, hl, h => someE h (assignInOrder_nil ⟨.refl s, F, fun _ b o _ e => e⟩)
  | [], _ :: _, _, _, _, _, _, _, h => no h
  | t :: ts, [], _, _, _, _, _, _, h => no h
  | t :: ts, v :: vs, cs, ρ, ρ', s, F, hl, h => goE (P := fun t => wpAny fx.M A (assignInOrder ((t :: ts).map fun t => assign t env) cs) (fun _ => GPost fx env c Wl ow ρ' (∀ x p, .Name x p ∈ t :: ts → c.k.lookup x = some .local) s) X s) h fun x p hk h => hl.cons fun cv cs hv hl =>
    assignInOrder_cons (a_name F (okN_k hk) hv fun s₁ st F1 hL => wm (go_sound F1 (hl.stp F st) h) fun _ s₂ h2 => ⟨st.trans h2.1, h2.2, fun hn b o hb e => h2.3 (fun x p hm => hn x p (List.mem_cons_of_mem _ hm)) b o hb (hL (hn _ _ List.mem_cons_self) b o hb e)⟩)
theorem tnames {ts : List Expr} {k : Nat} {p : Pos} {y : Str} {q : Pos} (h : .Name y q ∈ ts) : y ∈ targetNames (.Tuple ts k p) := List.mem_filterMap.mpr ⟨_, h, rfl⟩
theorem b_sound (R : Room A n) (F : FR fx env c Wl ow ρ s.heap) {target : Expr} {v : V} {cv : Value} {ρ' : Rho} (h : bindT c ρ target v = some ρ') (hv : RepV fx (Wf Wl ow) s.heap v cv) :
    wpAny fx.M A (assign target env cv) (fun _ => GPost fx env c Wl ow ρ' (∀ x ∈ targetNames target, c.k.lookup x = some .local) s) X s := by
  cases target with
  | Name x p => exact iteY h fun hk h => someE h (a_name F (okN_k hk) hv fun s' st F' hL => ⟨st, F', fun hn => hL (hn _ List.mem_cons_self)⟩)
  | Tuple ts k p =>
    refine bindE h fun vs ev h => ?_
    revert hv
    refine tupO_E (Q := fun v => RepV fx (Wf Wl ow) s.heap v cv → _) ev fun hv => ?_
    obtain ⟨h1, h2⟩ := go_len h
    obtain ⟨a, its, m, hW, ho, hl⟩ := hv
    have z : its.size = vs.length := its.length_toList.symm.trans hl.length
    refine wpAny_assign_Tuple R.handled ⟨_, ho, rfl, m, rfl⟩ (by rw [each_names h2, List.length_map, h1, z]) (by rw [each_names h2]; simp [List.findIdx?_eq_none_iff]) fun h' hx => ?_
    have kp : Kp s.heap h' := fun b o e => hx b o (fun q => Nat.lt_irrefl _ (Heap.lt_size (q ▸ e))) e
    have x : Ext s { s with heap := h' } := .heap kp
    have := go_sound (X := X) (A := A) (F.ext x) (hl.keeps kp) h
    rw [each_names h2, List.map_map]
    exact wm this fun _ s₂ h2 => ⟨(Stp.of_ext x).trans h2.1, h2.2, fun hn b o hb e => h2.3 (fun y q hm => hn y (tnames hm)) b o hb (kp b o e)⟩
  | _ => exact no h
theorem go_other {y : Str} : ∀ {ts : List Expr} {vs : List V} {ρ ρ' : Rho}, goT c ρ ts vs = some ρ' → (∀ p, .Name y p ∉ ts) → find ρ' y = find ρ y
  | [], [], _, _, h, _ => someE h rfl
  | [], _ :: _, _, _, h, _ => no h
  | t :: ts, [], _, _, h, _ => no h
  | t :: ts, v :: vs, ρ, ρ', h, hn => goE (P := fun t => (∀ p, .Name y p ∉ t :: ts) → find ρ' y = find ρ y) h (fun x p _ h hn => (go_other h fun q hm => hn q (List.mem_cons_of_mem _ hm)).trans (find_other fun e => hn p (by rw [e]; exact List.mem_cons_self))) hn
theorem bind_other {target : Expr} {v : V} {ρ' : Rho} {y : Str} (h : bindT c ρ target v = some ρ') (hn : y ∉ targetNames target) : find ρ' y = find ρ y := by
  cases target with
  | Name x p => exact iteY h fun _ h => someE h (find_other fun e => hn (by rw [e]; exact List.mem_cons_self))
  | Tuple ts k p => exact bindE h fun vs _ h => go_other h fun p hm => hn (tnames hm)
  | _ => exact no h
theorem FR.sub {ρ' : Rho} {h : Heap} (F : FR fx env c Wl ow ρ' h) (k : ∀ x b, find ρ x = some b → find ρ' x = some b) : FR fx env c Wl ow ρ h := { F with bind := fun x b e => F.bind x b (k x b e) }
end
end Mine
end
section
open PySem PySem.Calls PyProof.Rows PySem.W
set_option maxRecDepth 10000
namespace Mine
section
variable {fx : Fix} {r : Evs} {n : Nat} {A : Around} {env : Env} {c : Cx} {Wl Wl' W : Addr → Prop} {ow ow' : List (Str × Addr)} {ρ : Rho} {s s' : Shared} {X : Value → Shared → Prop} {h h' : Heap}
theorem At.chg {x : Str} {v : Value} (a : At env h x v) (k : ∀ b o, Ws env b → h.get? b = some o → h'.get? b = some o) : At env h' x v := by
  cases a with
  | loc m h1 h2 h3 => obtain ⟨o, es, ep, ho, q⟩ := h2; exact .loc m h1 ⟨o, es, ep, k _ _ (.inl rfl) ho, q⟩ h3
  | cell a h1 h2 h3 => obtain ⟨o, ho, q⟩ := h3; exact .cell a h1 h2 ⟨o, k _ _ (.inr ⟨x, mem_of_lookup h2⟩) ho, q⟩
theorem gone {h : Heap} {b : Addr} {o : Obj} {P : Prop} (e : h.get? b = none) (q : h.get? b = some o) : P := no (e.symm.trans q)
theorem FR.chg' (F : FR fx env c Wl ow ρ h) {P : Addr → Prop} (hP : ∀ b, P b → Wl b ∧ ¬ Ws env b) (k : ∀ b o, ¬ P b → h.get? b = some o → h'.get? b = some o) (sub : ∀ b, Ws env b → Wl' b) (grow : ∀ b, Wl' b → Wl b ∨ h.get? b = none)
    (live : ∀ b, Wl' b → ∃ o, h'.get? b = some o) : FR fx env c Wl' ow ρ h' := by
  have kw : ∀ b o, Ws env b → h.get? b = some o → h'.get? b = some o := fun b o hb e => k b o (fun q => (hP b q).2 hb) e
  have ko : ∀ x b o, (x, b) ∈ ow → h.get? b = some o → h'.get? b = some o := fun x b o hm e => k b o (fun q => F.owl _ hm (hP b q).1) e
  have mv : Mv (Wf Wl ow) (Wf Wl' ow) h h' := fun b o hb e => ⟨fun q => q.elim (fun q => (grow b q).elim (fun q => hb (.inl q)) fun q => gone q e) fun q => hb (.inr q), k b o (fun q => hb (.inl (hP b q).1)) e⟩
  exact { F with
    gd := ⟨F.gd.b0, fun b o e => mv b o (F.gd.old b o e).1 (F.gd.old b o e).2, fun b q => q.elim (live b) fun ⟨x, q⟩ => let ⟨o, e⟩ := F.alloc b (.inr ⟨x, q⟩); ⟨o, ko x b o q e⟩⟩
    ns := let ⟨m, o, es, ep, ho, q⟩ := F.ns; ⟨m, o, es, ep, kw _ _ (.inl rfl) ho, q⟩
    cells := fun x a hm => let ⟨v, o, ho, q⟩ := F.cells x a hm; ⟨v, o, kw _ _ (.inr ⟨x, hm⟩) ho, q⟩
    ws := sub
    owl := fun p hp q => (grow _ q).elim (F.owl p hp) fun q => let ⟨o, e⟩ := F.alloc p.2 (.inr ⟨p.1, hp⟩); gone q e
    bind := fun x b e => (F.bind x b e).move (fun v a => a.chg kw) (fun a y hm _ => ⟨hm, fun o e => ko y a o hm e⟩) mv }
theorem FR.chg (F : FR fx env c Wl ow ρ h) {P : Addr → Prop} (hP : ∀ b, P b → Wl b ∧ ¬ Ws env b) (k : ∀ b o, ¬ P b → h.get? b = some o → h'.get? b = some o) (sub : ∀ b, Wl b → Wl' b) (grow : ∀ b, Wl' b → Wl b ∨ h.get? b = none)
    (live : ∀ b, Wl' b → ∃ o, h'.get? b = some o) : FR fx env c Wl' ow ρ h' := F.chg' hP k (fun b q => sub b (F.ws b q)) grow live
theorem ifs_no (xs : List Expr) {s' : Shared} {Q : Bool → Shared → Prop} (q : Q false s') : wpAny fx.M A (forIn xs false fun c r => if r = true then do let ok ← isTrue c env (eval c env); pure (ForInStep.yield ok) else pure (ForInStep.yield r)) Q X s' := by
  induction xs with
  | nil => exact wpAny_pure q
  | cons y ys ih =>
    rw [List.forIn_cons]
    exact wpAny_bind (wpAny_pure ih)
theorem e_ifs (S : Snd fx r n) (R : Room A n) : ∀ {ifs : List Expr} {s : Shared} {b : Bool}, FR fx env c Wl ow ρ s.heap → ifsE r c ρ ifs = some b →
    wpAny fx.M A (forIn ifs true fun c r => if r = true then do let ok ← isTrue c env (eval c env); pure (ForInStep.yield ok) else pure (ForInStep.yield r)) (TPost b s) X s
  | [], s, b, F, h => someE h (wpAny_pure ⟨rfl, .refl s⟩)
  | x :: xs, s, b, F, h => bindE h fun b' e1 h => by
    rw [List.forIn_cons]
    exact wpAny_bind (wpAny_bind (S.tst R F e1 fun s₁ x1 F1 => wpAny_pure (match b', h with
      | true, h => wm (e_ifs S R F1 h) fun ok s₂ h2 => ⟨h2.1, x1.trans h2.2⟩
      | false, h => ifs_no xs (someE h ⟨rfl, x1⟩))))
theorem codeAny_compLoop_go {prog : Program} {w : World} {R : Result → Shared → Prop} {elt target iter : Expr} {ifs : List Expr} {scope : Scope} {pos : Pos} {it acc : Value} {env : Env} (I : Nat → Shared → Prop)
    (turn : ∀ n s, I n s → wpAny (model prog w) A (pyNext it) (fun r s₁ => match r with
      | none => R (.ok .next) s₁
      | some v => wpAny (model prog w) A (letOwnedTupleGo target it v) (fun _ s₁ => wpAny (model prog w) A (assign target env v) (fun _ s₂ =>
          wpAny (model prog w) A (forIn ifs true fun c r => if r = true then do let ok ← isTrue c env (eval c env); pure (ForInStep.yield ok) else pure (ForInStep.yield r)) (fun ok s₃ =>
            if ok = true then wpAny (model prog w) A (eval elt env) (fun x s₄ =>
              wpAny (model prog w) A (call (.builtin "list.append") [acc, x]) (fun _ s₅ => ∃ m, m < n ∧ I m s₅) (notedBy (model prog w) A env fun e s' => R (.error e) s') s₄) (notedBy (model prog w) A env fun e s' => R (.error e) s') s₃
            else ∃ m, m < n ∧ I m s₃) (notedBy (model prog w) A env fun e s' => R (.error e) s') s₂) (notedBy (model prog w) A env fun e s' => R (.error e) s') s₁) (notedBy (model prog w) A env fun e s' => R (.error e) s') s₁) (notedBy (model prog w) A env fun e s' => R (.error e) s') s)
    (n : Nat) (h : I n s) :
    codeAny (model prog w) A (.compLoop (.ListComp elt [⟨target, iter, ifs, 0⟩] scope pos) 0 it acc env) R s := by
  refine codeAny_loop rfl I (fun n s hI => ?_) n h
  show wpAny _ A ((compTurn (.ListComp elt [⟨target, iter, ifs, 0⟩] scope pos) 0 it acc env).onRaise (fun x => do noteFrame x env; theTreesLotGoes x)) _ _ s
  refine wpAny_noted ?_
  rw [compTurn_list]
  refine wpAny_bind (wpAny_standAt (wpAny_bind (wm (turn n s hI) fun r s₁ h₁ => ?_)))
  cases r with
  | none => exact wpAny_pure h₁
  | some v =>
    refine wpAny_bind (wm h₁ fun _ s₁ h₁ => ?_)
    refine wpAny_bind (wpAny_mono h₁ (fun _ s₂ h₂ => wpAny_bind (wpAny_mono h₂ (fun ok s₃ h₃ => ?_) fun _ _ h' => h')) fun _ _ h' => h')
    cases ok with
    | false => exact wpAny_pure ⟨rfl, h₃⟩
    | true =>
      exact wpAny_bind (wpAny_bind (wpAny_mono h₃ (fun x s₄ h₄ => wpAny_bind (wpAny_mono h₄ (fun _ s₅ h₅ => wpAny_pure (wpAny_pure ⟨rfl, h₅⟩)) fun _ _ h' => h')) fun _ _ h' => h'))
theorem closure_is : ∀ (names : List (Str × NameKind)), (∀ p ∈ names, p.2 = .free → ∃ a, env.cells.lookup p.1 = some a) → ∀ acc : List (Str × Addr), ∃ cl,
    (forIn names acc (fun (p : Str × NameKind) (cs : List (Str × Addr)) => if p.2 == .free then (do let a ← cellOf env p.1; pure (ForInStep.yield ((p.1, a) :: cs))) else pure (ForInStep.yield cs)) : Sem (List (Str × Addr))) = pure (cl ++ acc) ∧
    (∀ q ∈ cl, env.cells.lookup q.1 = some q.2 ∧ (q.1, NameKind.free) ∈ names) ∧ (∀ p ∈ names, p.2 = .free → ∃ a, (p.1, a) ∈ cl) ∧ ((names.map (·.1)).Nodup → (cl.map (·.1)).Nodup)
  | [], _, acc => ⟨[], rfl, fun _ h => (nomatch h), fun _ h => (nomatch h), fun _ => List.nodup_nil⟩
  | p :: ps, H, acc => by
    by_cases hp : p.2 = .free
    · obtain ⟨a, ha⟩ := H p List.mem_cons_self hp
      obtain ⟨cl, h1, h2, h3, h4⟩ := closure_is ps (fun q hq => H q (List.mem_cons_of_mem _ hq)) ((p.1, a) :: acc)
      refine ⟨cl ++ [(p.1, a)], ?_, fun q hq => ?_, fun q hq hf => ?_, fun hn => ?_⟩
      · rw [List.forIn_cons]
        simp only [hp, beq_self_eq_true, if_true]
        have : cellOf env p.1 = pure a := by unfold cellOf; rw [ha]
        rw [this]
        simpa using h1
      · rcases List.mem_append.mp hq with hq | hq
        · exact ⟨(h2 q hq).1, List.mem_cons_of_mem _ (h2 q hq).2⟩
        · rw [List.mem_singleton.mp hq]
          exact ⟨ha, by rw [← hp]; exact List.mem_cons_self⟩
      · rcases List.mem_cons.mp hq with rfl | hq
        · exact ⟨a, List.mem_append_right _ (List.mem_singleton.mpr rfl)⟩
        · obtain ⟨b, hb⟩ := h3 q hq hf; exact ⟨b, List.mem_append_left _ hb⟩
      · simp only [List.map_cons, List.nodup_cons] at hn
        rw [List.map_append, List.nodup_append]
        refine ⟨h4 hn.2, by simp, fun x hx y hy e => ?_⟩
        simp only [List.map_cons, List.map_nil, List.mem_singleton] at hy
        subst hy e
        obtain ⟨q, hq, e⟩ := List.mem_map.mp hx
        exact hn.1 (List.mem_map.mpr ⟨_, (h2 q hq).2, e⟩)
    · obtain ⟨cl, h1, h2, h3, h4⟩ := closure_is ps (fun q hq => H q (List.mem_cons_of_mem _ hq)) acc
      refine ⟨cl, ?_, fun q hq => ⟨(h2 q hq).1, List.mem_cons_of_mem _ (h2 q hq).2⟩, fun q hq hf => ?_, fun hn => ?_⟩
      · rw [List.forIn_cons]
        have : (p.2 == NameKind.free) = false := by simpa using hp
        simp only [this, Bool.false_eq_true, if_false]
        simpa using h1
      · rcases List.mem_cons.mp hq with rfl | hq
        · exact absurd hf hp
        · exact h3 q hq hf
      · simp only [List.map_cons, List.nodup_cons] at hn
        exact h4 hn.2
theorem compRho_find {sc : Scope} {x : Str} {b : Bd} (h : find (compRho sc ρ) x = some b) : ∃ v, b = .val v ∧ (x, NameKind.free) ∈ sc.names ∧ find ρ x = some (.val v) := by
  have hm := mem_of_lookup h
  obtain ⟨p, hp, e⟩ := List.mem_filterMap.mp hm
  refine iteY e fun hk e => ?_
  revert e
  cases hv : find ρ p.1 with
  | none => exact fun e => no e
  | some w =>
    cases w with
    | own => exact fun e => no e
    | val v =>
      intro e
      cases e
      refine ⟨v, rfl, ?_, hv⟩
      rw [← eq_of_beq hk]; exact hp
noncomputable def Wc (W : Addr → Prop) (C D : Addr) (wr : Addr → Prop) (b : Addr) : Prop := (W b ∨ b = C ∨ b = D) ∨ wr b
theorem relabel_names {sc : Scope} {target : Expr} (F : FR fx env c Wl ow ρ h) (ok : compOk c sc target = true) : (relabel sc env).names = (compCx sc).k := by
  simp only [compOk, Bool.and_eq_true, List.all_eq_true, Bool.or_eq_true, beq_iff_eq, bne_iff_ne] at ok
  show sc.names.map _ = sc.names.map _
  refine List.map_congr_left fun p hp => ?_
  obtain ⟨n, k⟩ := p
  have := (ok.1.2 _ hp).2
  dsimp only at this ⊢
  by_cases hk : k = .free
  · subst hk
    have h2 : c.k.lookup n = some .cell := this.resolve_left (fun z => z rfl)
    have h1 : env.kindOf n = some .cell := by unfold Env.kindOf; rw [F.names]; exact h2
    simp [F.kind, h1]
  · have : (k == NameKind.free) = false := by simpa using hk
    simp [this]
theorem lookup_comp {names : List (Str × NameKind)} {x : Str} : (names.map fun (n, k) => (n, if k == NameKind.free then NameKind.cell else k)).lookup x = (names.lookup x).map fun k => if k == NameKind.free then NameKind.cell else k := by
  induction names with
  | nil => rfl
  | cons p ps ih =>
    obtain ⟨n, k⟩ := p
    rw [List.map_cons, List.lookup_cons, List.lookup_cons]
    cases x == n with
    | true => rfl
    | false => exact ih
theorem comp_fr {sc : Scope} {target : Expr} {cl : List (Str × Addr)} {C D : Addr} {wr : Addr → Prop} (F : FR fx env c Wl ow ρ h) (ok : compOk c sc target = true)
    (c2 : ∀ q ∈ cl, env.cells.lookup q.1 = some q.2 ∧ (q.1, NameKind.free) ∈ sc.names) (c3 : ∀ p ∈ sc.names, p.2 = .free → ∃ a, (p.1, a) ∈ cl) (c4 : (sc.names.map (·.1)).Nodup → (cl.map (·.1)).Nodup)
    (hC : h.get? C = none) (hD : h.get? D = none) (hwr : ∀ b, wr b → h.get? b = none) (k : ∀ b o, h.get? b = some o → h'.get? b = some o) (hns : ∃ m, h'.Ns C m) (hD' : ∃ o, h'.get? D = some o) (hwr' : ∀ b, wr b → ∃ o, h'.get? b = some o) :
    FR fx (compEnvC sc cl C env) (compCx sc) (Wc (Wf Wl ow) C D wr) [] (compRho sc ρ) h' := by
  have ok' := ok
  simp only [compOk, Bool.and_eq_true, List.all_eq_true, Bool.or_eq_true, beq_iff_eq, bne_iff_ne, decide_eq_true_eq, Option.isNone_iff_eq_none] at ok'
  obtain ⟨⟨⟨⟨o1, o2⟩, o3⟩, o4⟩, o5⟩ := ok'
  have kc : ∀ x, (compCx sc).k.lookup x = (sc.names.lookup x).map fun k => if k == NameKind.free then NameKind.cell else k := fun x => lookup_comp
  have clm : ∀ x a, (x, a) ∈ cl → (x, a) ∈ env.cells := fun x a hm => mem_of_lookup (c2 _ hm).1
  have notW : ∀ b o, ¬ Wf Wl ow b → h.get? b = some o → ¬ Wf (Wc (Wf Wl ow) C D wr) [] b := fun b o hb e q => by
    rcases q with ((q | q | q) | q) | ⟨_, q⟩
    · exact hb q
    · subst q; rw [hC] at e; cases e
    · subst q; rw [hD] at e; cases e
    · rw [hwr b q] at e; cases e
    · cases q
  refine ⟨o3, relabel_names F ok, ?_, F.gl, F.bl, ⟨F.gd.b0, fun b o e => ⟨notW b o (F.gd.old b o e).1 (F.gd.old b o e).2, k _ _ (F.gd.old b o e).2⟩, fun b q => ?_⟩, hns, fun x a hm => ?_, fun x q => ?_, ?_, fun x a hm => ?_, fun b q => ?_, List.nodup_nil, fun _ hp => (nomatch hp), fun x b e => ?_⟩
  · rw [kc, o2]; rfl
  · rcases q with ((q | q | q) | q) | ⟨_, q⟩
    · obtain ⟨o, e⟩ := F.alloc b q; exact ⟨o, k _ _ e⟩
    · subst q; obtain ⟨m, o, _, _, e, _⟩ := hns; exact ⟨o, e⟩
    · subst q; exact hD'
    · exact hwr' b q
    · cases q
  · obtain ⟨v, hv⟩ := F.cells x a (clm x a hm); exact ⟨v, hv.keeps k⟩
  · rw [kc] at q
    obtain ⟨kd, q1, q2⟩ := Option.map_eq_some_iff.mp q
    have hm := mem_of_lookup q1
    have : kd = .free := by
      by_cases hk : kd = .free
      · exact hk
      · have hb : (kd == NameKind.free) = false := by simpa using hk
        rw [hb] at q2
        exact absurd q2 (o4 _ hm).1
    subst this
    obtain ⟨a, ha⟩ := c3 _ hm rfl
    exact ⟨a, lookup_mem (c4 o1) ha⟩
  · have nd := c4 o1
    show cl.Pairwise fun x y => x.2 ≠ y.2
    have hs : cl.Pairwise fun x y => x.1 ≠ y.1 := (List.pairwise_map.mp nd)
    refine hs.imp_of_mem fun {x y} hx hy hne e => hne ?_
    exact name_of_addr F.capart (clm x.1 x.2 hx) (by rw [e]; exact clm y.1 y.2 hy)
  · intro e
    obtain ⟨v, o, ho, _⟩ := F.cells x a (clm x a hm)
    have e : a = C := e
    subst e; rw [hC] at ho; cases ho
  · rcases q with q | ⟨x, q⟩
    · exact .inl (.inr (.inl q))
    · exact .inl (.inl (.inl (F.ws b (.inr ⟨x, clm x b q⟩))))
  · obtain ⟨v, rfl, hf, hv⟩ := compRho_find e
    obtain ⟨cv, h1, h2⟩ := F.bind x _ hv
    refine .mk cv ?_ (h2.move fx fun b o hb e => ⟨notW b o hb e, k b o e⟩)
    have hcell : c.k.lookup x = some .cell := (o4 _ hf).2.resolve_left (fun z => z rfl)
    cases h1 with
    | loc m q1 q2 q3 => unfold Env.kindOf at q1; rw [F.names, hcell] at q1; cases q1
    | cell a q1 q2 q3 =>
      obtain ⟨a', ha'⟩ := c3 _ hf rfl
      have q2' := (c2 _ ha').1
      dsimp only at q2'
      rw [q2] at q2'; cases q2'
      refine .cell a ?_ (lookup_mem (c4 o1) ha') (q3.keeps k)
      show (relabel sc env).names.lookup x = _
      rw [relabel_names F ok, kc, lookup_mem o1 hf]; rfl
inductive CompR (r : Evs) (c : Cx) (ρ : Rho) (elt target : Expr) (ifs : List Expr) (vs : List V) (ρ' : Rho) : Bool → List V → Prop
  | yes (y : V) (zs : List V) : pureE r c ρ' elt = some y → compL r c ρ elt target ifs vs = some zs → CompR r c ρ elt target ifs vs ρ' true (y :: zs)
  | no (zs : List V) : compL r c ρ elt target ifs vs = some zs → CompR r c ρ elt target ifs vs ρ' false zs
theorem compL_cons {elt target : Expr} {ifs : List Expr} {v : V} {vs ys : List V} (h : compL r c ρ elt target ifs (v :: vs) = some ys) : ∃ ρ' b, bindT c ρ target v = some ρ' ∧ ifsE r c ρ' ifs = some b ∧ CompR r c ρ elt target ifs vs ρ' b ys :=
  bindE h fun ρ' e1 h => bindE h fun b e2 h => ⟨ρ', b, e1, e2, iteB h (fun hb h => hb ▸ bindE h fun y e3 h => mapE h fun zs e4 => .yes y zs e3 e4) fun hb h => hb ▸ .no ys h⟩
theorem Chg0.ext {wr : Addr → Prop} {gi : Nat → Prop} (x : Chg0 wr gi s s') {s₀ : Shared} (k : Ext s₀ s) (hw : ∀ b, wr b → s₀.heap.get? b = none) (hg : ∀ i, gi i → s₀.gens[i]? = none) : Ext s₀ s' :=
  ⟨fun b o e => x.keep b o (fun q => by rw [hw b q] at e; cases e) (k.keep b o e), fun i y e => x.gens i y (fun q => by rw [hg i q] at e; cases e) (k.gens i y e), fun e => x.bare (k.bare e), x.os.trans k.os⟩
structure CompC (W : Addr → Prop) (s₀ : Shared) (h₂ : Heap) (C D : Addr) (cenv : Env) (cc : Cx) (ρc : Rho) (gi : Nat → Prop) (target : Expr) : Prop where
  Cl : cenv.locals = C
  hC : h₂.get? C = none
  hD : h₂.get? D = none
  CD : C ≠ D
  Dc : ¬ Ws cenv D
  c0 : s₀.heap.get? C = none
  d0 : s₀.heap.get? D = none
  g0 : ∀ i, gi i → s₀.gens[i]? = none
  wc : ∀ b, Ws cenv b → W b ∨ b = C
  W0 : ∀ b, W b → ∃ o, s₀.heap.get? b = some o
  rd : ∀ b, Rd W h₂ b → b ≠ C ∧ b ≠ D
  loc : ∀ x ∈ targetNames target, cc.k.lookup x = some .local
  rho : ∀ x b, find ρc x = some b → x ∉ targetNames target
noncomputable def Apt (s₀ : Shared) (C D : Addr) (wr : Addr → Prop) : Prop := ∀ b, wr b → s₀.heap.get? b = none ∧ b ≠ C ∧ b ≠ D
inductive CompI (fx : Fix) (r : Evs) (s₀ : Shared) (W : Addr → Prop) (cenv : Env) (cc : Cx) (ρc : Rho) (C D : Addr) (St : (Addr → Prop) → (Nat → Prop) → List V → Shared → Prop) (gi : Nat → Prop) (elt target : Expr) (ifs : List Expr) (total : List V) (bound : Nat) (vs : List V) (s : Shared) : Prop
  | mk (wr : Addr → Prop) (ys rest : List V) : St wr gi vs s → FR fx cenv cc (Wc W C D wr) [] ρc s.heap → LstOwn s.heap D (RepL fx (Wc W C D wr) s.heap ys) → compL r cc ρc elt target ifs vs = some rest → total = ys ++ rest → ys.length + vs.length ≤ bound → Ext s₀ s → Apt s₀ C D wr → CompI fx r s₀ W cenv cc ρc C D St gi elt target ifs total bound vs s
section
variable {s₀ s₁ : Shared} {h₂ : Heap} {C D : Addr} {St : (Addr → Prop) → (Nat → Prop) → List V → Shared → Prop} {gi : Nat → Prop} {elt target iter : Expr} {ifs : List Expr} {total : List V} {bound : Nat} {sc : Scope} {pos : Pos} {cenv : Env} {cc : Cx} {ρc : Rho} {I : Addr} {wr wr' : Addr → Prop}
structure CompT (fx : Fix) (W : Addr → Prop) (s₀ : Shared) (C D : Addr) (cenv : Env) (cc : Cx) (ρc : Rho) (wr wr' : Addr → Prop) (s s₁ : Shared) : Prop where
  apt : Apt s₀ C D wr'
  fr : FR fx cenv cc (Wc W C D wr') [] ρc s₁.heap
  mv : Mv (Wc W C D wr) (Wc W C D wr') s.heap s₁.heap
  ext : Ext s₀ s₁
theorem comp_turn (H : CompC W s₀ h₂ C D cenv cc ρc gi target) (F : FR fx cenv cc (Wc W C D wr) [] ρc s.heap) (hD : ∃ o, s.heap.get? D = some o) (ext : Ext s₀ s) (hwr : Apt s₀ C D wr) (ch : Chg wr wr' gi s s₁) : CompT fx W s₀ C D cenv cc ρc wr wr' s s₁ where
  apt := fun b q => (ch.grow b q).elim (hwr b) fun q => ⟨by
    cases e : s₀.heap.get? b with
    | none => rfl
    | some o => exact gone q (ext.keep b o e), fun e => by
      obtain ⟨m, o, es, ep, ho, _⟩ := F.ns
      rw [H.Cl] at ho
      exact gone (e ▸ q) ho, fun e => let ⟨o, ho⟩ := hD; gone (e ▸ q) ho⟩
  fr := F.chg (P := wr) (fun b q => ⟨.inr q, fun z => (H.wc b z).elim (fun z => let ⟨o, e⟩ := H.W0 b z; gone (hwr b q).1 e) (hwr b q).2.1⟩) ch.keep (fun b q => q.imp id (ch.sub b)) (fun b q => q.elim (fun q => .inl (.inl q)) fun q => (ch.grow b q).imp .inr id)
    (fun b q => q.elim (fun q => by
      obtain ⟨o, e⟩ := F.alloc b (.inl (.inl q))
      by_cases hw : wr b
      · exact ch.live b (ch.sub b hw)
      · exact ⟨o, ch.keep b o hw e⟩) (ch.live b))
  mv := fun b o hb e => ⟨fun q => q.elim (fun q => hb (.inl q)) fun q => (ch.grow b q).elim (fun q => hb (.inr q)) fun q => gone q e, ch.keep b o (fun q => hb (.inr q)) e⟩
  ext := ch.toChg0.ext ext (fun b q => (hwr b q).1) H.g0
theorem LstOwn.mv {h h' : Heap} {W W' : Addr → Prop} {ys : List V} (x : LstOwn h D (RepL fx W h ys)) (k : ∀ o, h.get? D = some o → h'.get? D = some o) (m : Mv W W' h h') : LstOwn h' D (RepL fx W' h' ys) := match x with
  | .mk its n ho hl => .mk its n (k _ ho) (hl.move fx m)
theorem comp_loop (S : Snd fx r n) (R : Room A n) (H : CompC W s₀ h₂ C D cenv cc ρc gi target) (It : Itr fx A W h₂ I target St) (hb : lenOk bound = true)
    {RR : Result → Shared → Prop} (hR : ∀ s', (∃ m, s'.heap.Ns C m) → LstOwn s'.heap D (RepL fx (fun b => W b ∨ b = C ∨ b = D) s'.heap total) → Ext s₀ s' → RR (.ok .next) s') :
    ∀ (vs : List V) (s : Shared), CompI fx r s₀ W cenv cc ρc C D St gi elt target ifs total bound vs s → codeAny fx.M A (.compLoop (.ListComp elt [⟨target, iter, ifs, 0⟩] sc pos) 0 (.ref I) (.ref D) cenv) RR s := by
  intro vs s hI
  refine codeAny_compLoop_go (I := fun k s => ∃ vs, vs.length = k ∧ CompI fx r s₀ W cenv cc ρc C D St gi elt target ifs total bound vs s) (fun k s hk => ?_) vs.length ⟨vs, rfl, hI⟩
  obtain ⟨vs, rfl, wr, ys, rest, st, F, hO, hcl, rfl, hbd, ext, hwr⟩ := hk
  cases vs with
  | nil =>
    refine wm (It.done st _) fun o s' h => ?_
    obtain ⟨rfl, ch⟩ := h
    refine hR s' ?_ (someE (Q := fun rest => LstOwn s'.heap D (RepL fx (fun b => W b ∨ b = C ∨ b = D) s'.heap (ys ++ rest))) hcl ?_) (ch.ext ext (fun b q => (hwr b q).1) H.g0)
    · obtain ⟨m, o, es, ep, ho, q⟩ := F.ns
      rw [H.Cl] at ho
      exact ⟨m, o, es, ep, ch.keep C _ (fun q => (hwr C q).2.1 rfl) ho, q⟩
    · rw [List.append_nil]
      exact hO.mv (fun o => ch.keep D o fun q => (hwr D q).2.2 rfl) fun b o hb e => ⟨fun q => hb (.inl q), ch.keep b o (fun q => hb (.inr q)) e⟩
  | cons v vs =>
    obtain ⟨ρ', bb, e1, e2, e3⟩ := compL_cons hcl
    refine wm (It.item (U := fun b => W b ∨ b = C ∨ b = D) st (fun b q => ⟨F.alloc b (.inl (.inl q)), q.imp id fun q => q.elim (fun q => q ▸ H.hC) fun q => q ▸ H.hD⟩) (notedBy (model fx.prog fx.w) A cenv fun e s' => RR (.error e) s') (notedBy (model fx.prog fx.w) A cenv fun e s' => RR (.error e) s')) fun o s₁ h => ?_
    obtain ⟨cv, _, h⟩ := h
    refine wm h fun _ s₁ h => ?_
    obtain ⟨wr', hcv, st', ch⟩ := h
    have T := comp_turn H F (match hO with | .mk _ _ ho _ => ⟨_, ho⟩) ext hwr ch
    have hO1 := hO.mv (fun o => ch.keep D o fun q => (hwr D q).2.2 rfl) T.mv
    refine wm (b_sound R T.fr e1 (hcv.anti fun b q => q.elim id fun ⟨_, q⟩ => nomatch q)) fun _ s₂ h => ?_
    obtain ⟨stp, F2, hL⟩ := h
    have hL := hL H.loc
    have hO2 := hO1.mv (fun o => hL D o fun q => H.CD (q.trans H.Cl).symm) fun b o hb e => ⟨hb, hL b o (fun q => hb (.inl (.inr (.inl (q.trans H.Cl))))) e⟩
    have ext2 : Ext s₀ s₂ := ⟨fun b o e => hL b o (fun q => by rw [q, H.Cl, H.c0] at e; exact no e) (T.ext.keep b o e), fun i y e => stp.gens i y (T.ext.gens i y e), fun e => stp.bare (T.ext.bare e), stp.os.trans T.ext.os⟩
    have st2 := It.frame (s' := s₂) st' (fun b o q e => hL b o (fun z => q.elim (fun q => (T.apt b q).2.1 (z.trans H.Cl)) fun q => (H.rd b q).1 (z.trans H.Cl)) e) (fun i y _ e => stp.gens i y e)
    refine wm (e_ifs S R F2 e2) fun ok s₃ h => ?_
    obtain ⟨rfl, x3⟩ := h
    have F3 := F2.ext x3
    have st3 := It.frame (s' := s₃) st2 (fun b o _ e => x3.keep b o e) (fun i y _ e => x3.gens i y e)
    have hO3 := hO2.mv (x3.keep D) (Kp.mv x3.keep)
    have back : ∀ s' : Shared, FR fx cenv cc (Wc W C D wr') [] ρ' s'.heap → FR fx cenv cc (Wc W C D wr') [] ρc s'.heap := fun _ F => F.sub fun x b e => (bind_other e1 (H.rho x b e)).trans e
    rw [List.length_cons] at hbd
    cases e3 with
    | no _ e3 => exact ifF ⟨vs.length, Nat.lt_succ_self _, vs, rfl, .mk wr' ys rest st3 (back _ F3) hO3 e3 rfl (by omega) (ext2.trans x3) T.apt⟩
    | yes y zs e3 e4 =>
      refine ifT (S.evV R F3 e3 fun yv s₄ x4 F4 hy => ?_)
      have st4 := It.frame (s' := s₄) st3 (fun b o _ e => x4.keep b o e) (fun i y _ e => x4.gens i y e)
      obtain ⟨its, kk, hDo, hDl⟩ := hO3.mv (x4.keep D) (Kp.mv x4.keep)
      have zl : its.size = ys.length := its.length_toList.symm.trans hDl.length
      refine wpAny_list_append_plain (items := its) ⟨kk, hDo⟩ (fun h' hp sb => ?_) (by have := lenOk_le hb; rw [zl]; omega)
      have mv5 : Mv (Wc W C D wr') (Wc W C D wr') s₄.heap h' := mv_same (.inl (.inr (.inr rfl))) sb
      have e24 := (ext2.trans x3).trans x4
      obtain ⟨k', hp⟩ := hp
      refine ⟨vs.length, Nat.lt_succ_self _, vs, rfl, .mk wr' (ys ++ [y]) zs (It.frame (s' := { s₄ with heap := h' }) st4 (fun b o q e => (sb.2 b (fun z => q.elim (fun q => (T.apt b q).2.2 z) fun q => (H.rd b q).2 z)).trans e) (fun _ _ _ e => e)) ?_ (.mk (its.push yv) k' hp ?_) e4 (by rw [List.append_assoc]; rfl) (by rw [List.length_append, List.length_singleton]; omega) ⟨fun b o e => (sb.2 b (fun q => by rw [q, H.d0] at e; exact no e)).trans (e24.keep b o e), e24.gens, e24.bare, e24.os⟩ T.apt⟩
      · refine FR.chg (back _ F4) (P := (· = D)) (fun b q => ⟨q ▸ .inl (.inr (.inr rfl)), q ▸ H.Dc⟩) (fun b o q e => (sb.2 b q).trans e) (fun b q => q) (fun b q => .inl q) fun b q => ?_
        by_cases hbD : b = D
        · subst hbD; exact ⟨_, hp⟩
        · obtain ⟨o, e⟩ := F4.alloc b (.inl q); exact ⟨o, (sb.2 b hbD).trans e⟩
      · rw [Array.toList_push]
        exact (hDl.move fx mv5).snoc (RepV.move fx mv5 _ _ (hy.anti fun b q => .inl q))
end
theorem closure_eq {sc : Scope} (H : ∀ p ∈ sc.names, p.2 = .free → ∃ a, env.cells.lookup p.1 = some a) : ∃ cl, closureFor sc env = pure cl ∧
    (∀ q ∈ cl, env.cells.lookup q.1 = some q.2 ∧ (q.1, NameKind.free) ∈ sc.names) ∧ (∀ p ∈ sc.names, p.2 = .free → ∃ a, (p.1, a) ∈ cl) ∧ ((sc.names.map (·.1)).Nodup → (cl.map (·.1)).Nodup) := by
  obtain ⟨cl, h1, h2⟩ := closure_is sc.names H []
  refine ⟨cl, ?_, h2⟩
  rw [List.append_nil] at h1
  rw [← h1]
  unfold closureFor
  simp only [bind_pure]
theorem comp_any (Z : Stat fx) (G : GenOk fx) (S : Snd fx r n) (R : Room A (n + 1)) (F : FR fx env c Wl ow ρ s.heap) {elt target iter : Expr} {ifs : List Expr} {sc : Scope} {pos : Pos} {vs ys : List V} {use : Option (Value → Sem Unit)} {Q : Value → Shared → Prop} (ok : compOk c sc target = true) (e1 : itE r c ρ target iter = some vs) (hz : lenOk vs.length = true) (e2 : compL r (compCx sc) (compRho sc ρ) elt target ifs vs = some ys)
    (hfin : ∀ (D C : Addr) (s' : Shared), s.heap.get? C = none → s.heap.get? D = none → C ≠ D → (∃ m, s'.heap.Ns C m) → LstOwn s'.heap D (RepL fx (fun b => Wf Wl ow b ∨ b = C ∨ b = D) s'.heap ys) → Ext s s' →
      compPost fx.M A X use Q (.ref D) C (.ok .next) s') :
    wpAny fx.M A (comprehension (.ListComp elt [⟨target, iter, ifs, 0⟩] sc pos) sc env (firstIterPos [⟨target, iter, ifs, 0⟩] pos) (newList []) false (eval iter env) use) Q X s := by
  have ok' := ok
  simp only [compOk, Bool.and_eq_true, List.all_eq_true, Bool.or_eq_true, beq_iff_eq, bne_iff_ne, decide_eq_true_eq, Option.isNone_iff_eq_none] at ok'
  obtain ⟨⟨⟨⟨o1, o2⟩, o3⟩, o4⟩, o5⟩ := ok'
  obtain ⟨cl, c1, c2, c3, c4⟩ := closure_eq (sc := sc) (env := env) fun p hp hf => F.hascell p.1 ((o4 p hp).2.resolve_left fun z => z hf)
  obtain ⟨hs, hit⟩ := it_sound Z G S R F e1
  refine wpAny_comprehension_free (use := use) rfl (not_set hs) c1 o3 (fun p hp hl => by have := lookup_mem o1 (n := p.1) (c := p.2) hp; rw [this, hl]) (wm (hit X X) fun xv s₁ h => wm h fun it s₂ h => ?_)
  obtain ⟨_, I, St, wr, gi, It, st, ext, hwr, hgi⟩ := h
  refine wpAny_newObj_type (wpAny_newFunctionEnv (fun p hp => (o4 p hp).1) (by intro y hy; simp at hy) (fun h₁ hns₁ hsb₁ => ?_) o3)
  dsimp only at hns₁ hsb₁ ⊢
  generalize hH2 : s₂.heap.push { cls := .type "list", dict := none, data := .seq ([] : List Value).toArray } = H2 at hns₁ hsb₁ ⊢
  have hCs : H2.objs.size = s₂.heap.objs.size + 1 := by rw [← hH2, Heap.size_push]
  have kp : ∀ b o, s₂.heap.get? b = some o → h₁.get? b = some o := fun b o e => hsb₁.extBut b o (fun q => by
    have := Heap.lt_size e
    rw [q, hCs] at this
    exact Nat.lt_irrefl _ (Nat.lt_of_succ_lt this)) (Heap.get?_push_of_some _ (hH2 ▸ Heap.get?_push_of_some _ e))
  have hC : s₂.heap.get? H2.objs.size = none := by
    cases e : s₂.heap.get? H2.objs.size with
    | none => rfl
    | some o => have := Heap.lt_size e; rw [hCs] at this; exact absurd this (Nat.not_lt.mpr (Nat.le_succ _))
  have hD : s₂.heap.get? s₂.heap.objs.size = none := by
    cases e : s₂.heap.get? s₂.heap.objs.size with
    | none => rfl
    | some o => exact absurd (Heap.lt_size e) (Nat.lt_irrefl _)
  have back0 : ∀ b, s₂.heap.get? b = none → s.heap.get? b = none := fun b q => by
    cases e : s.heap.get? b with
    | none => rfl
    | some o => rw [ext.keep b o e] at q; cases q
  have hCD : H2.objs.size ≠ s₂.heap.objs.size := by rw [hCs]; exact Nat.succ_ne_self _
  have hDo : h₁.get? s₂.heap.objs.size = some { cls := .type "list", data := .seq #[] 0 } := hsb₁.extBut _ _ hCD.symm (Heap.get?_push_of_some _ (hH2 ▸ Heap.get?_push_size _ rfl))
  have x1 : Ext s₂ { s₂ with heap := h₁, toks := s₂.toks + ([] : List (Str × Value)).length } := .heap kp
  have F₀ : FR fx (compEnvC sc cl H2.objs.size env) (compCx sc) (Wc (Wf Wl ow) H2.objs.size s₂.heap.objs.size wr) [] (compRho sc ρ) h₁ :=
    comp_fr F ok c2 c3 c4 (back0 _ hC) (back0 _ hD) hwr (fun b o e => kp b o (ext.keep b o e)) ⟨_, hns₁⟩ ⟨_, hDo⟩ fun b q => by
      obtain ⟨o, e⟩ := It.live st b q; exact ⟨o, kp b o e⟩
  have st1 := It.frame (s' := { s₂ with heap := h₁, toks := s₂.toks + ([] : List (Str × Value)).length }) st (fun b o _ e => kp b o e) (fun _ _ _ e => e)
  have hwl : ∀ b, Ws (compEnvC sc cl H2.objs.size env) b → Wf Wl ow b ∨ b = H2.objs.size := fun b q => by
    rcases q with q | ⟨x, q⟩
    · exact .inr q
    · exact .inl (.inl (F.ws b (.inr ⟨x, mem_of_lookup (c2 _ q).1⟩)))
  have loop : codeAny fx.M A (.compLoop (.ListComp elt [⟨target, iter, ifs, 0⟩] sc pos) 0 (.ref I) (.ref s₂.heap.objs.size) (compEnvC sc cl H2.objs.size env)) (compPost (model fx.prog fx.w) A X use Q (.ref s₂.heap.objs.size) H2.objs.size) { s₂ with heap := h₁, toks := s₂.toks + ([] : List (Str × Value)).length } := by
    have gC : ∀ b, (Wf Wl ow b → b ≠ H2.objs.size ∧ b ≠ s₂.heap.objs.size) := fun b q => let ⟨o, e⟩ := F.alloc b q; ⟨fun z => gone (back0 _ hC) (z ▸ e), fun z => gone (back0 _ hD) (z ▸ e)⟩
    have gL : ∀ b o, s₂.heap.get? b = some o → b ≠ H2.objs.size ∧ b ≠ s₂.heap.objs.size := fun b o e => ⟨fun z => gone hC (z ▸ e), fun z => gone hD (z ▸ e)⟩
    refine comp_loop S (R.le (Nat.le_succ n)) (s₀ := s) (C := H2.objs.size) ⟨rfl, hC, hD, hCD, fun q => (hwl _ q).elim (fun q => (gC _ q).2 rfl) fun q => hCD q.symm, back0 _ hC, back0 _ hD, hgi, hwl, fun b q => F.alloc b q, fun b ⟨_, o, e⟩ => gL b o e, fun x hx => ?_, fun x b hf => ?_⟩ It hz (fun s' hn hd hx => hfin _ _ s' (back0 _ hC) (back0 _ hD) hCD hn hd hx) vs _ (.mk wr [] ys st1 F₀ (.mk #[] 0 hDo rfl) e2 rfl (Nat.le_of_eq (Nat.zero_add _)) (ext.trans x1) fun b q => ⟨hwr b q, let ⟨o, e⟩ := It.live st b q; gL b o e⟩)
    · show (sc.names.map _).lookup x = _
      rw [lookup_comp, o5 x hx]; rfl
    · obtain ⟨_, _, hm, _⟩ := compRho_find hf
      intro hx
      have := o5 x hx
      rw [lookup_mem o1 hm] at this; cases this
  exact codeAny_compStart_list loop (It.self st1 loop)
theorem e_comp (Z : Stat fx) (G : GenOk fx) (S : Snd fx r n) (R : Room A (n + 1)) (F : FR fx env c Wl ow ρ s.heap) {elt target iter : Expr} {ifs : List Expr} {sc : Scope} {pos : Pos} {ys : List V} (e : comE r c ρ elt target iter ifs sc = some ys) :
    wpAny fx.M A (eval (.ListComp elt [⟨target, iter, ifs, 0⟩] sc pos) env) (EPost fx Wl ow s false (.lst ys)) X s := by
  refine iteN e fun ok e => bindE e fun vs e1 e => iteY e fun hz e2 => ?_
  rw [eval_ListComp]
  refine comp_any Z G S R F (notN ok) e1 hz e2 (use := none) fun D C s' hC hD hCD ⟨m, hn⟩ ⟨its, kk, hd, hl⟩ hx => ?_
  refine ⟨m, hn, fun h' sb => .v ⟨fun b o e => (sb.2 b fun z => (by rw [z, hC] at e; exact no e)).trans (hx.keep b o e), hx.gens, hx.bare, hx.os⟩ (.mk _ its kk (fun q => ?_) ((sb.2 _ hCD.symm).trans hd) (hl.move fx fun b o hb e => ⟨fun q => hb (.inl q), (sb.2 b fun z => hb (.inr (.inl z))).trans e⟩))⟩
  obtain ⟨o, e⟩ := F.alloc _ q; exact gone hD e
end
end Mine
end
section
open PySem PySem.Calls PyProof.Rows PySem.W
set_option maxRecDepth 10000
namespace Mine
section
variable {fx : Fix} {r : Evs} {n : Nat} {A : Around} {env : Env} {c : Cx} {Wl Wl' W : Addr → Prop} {ow ow' : List (Str × Addr)} {ρ : Rho} {s s' : Shared} {X : Value → Shared → Prop} {h h' : Heap}
theorem ints_at {W : Addr → Prop} {h : Heap} : ∀ {l : List V} {cs : List Value} {f : Nat → Int}, cs.length = l.length → (∀ (i : Nat) v, l[i]? = some v → v = .int (f i)) → (∀ (j : Nat) v, cs[j]? = some v → ∃ t, v = .int (f j) t) → RepL fx W h l cs
  | [], cs, f, hn, _, _ => List.length_eq_zero_iff.mp hn
  | v :: l, [], f, hn, _, _ => nomatch hn
  | v :: l, c :: cs, f, hn, h1, h2 => .mk c cs (by rw [h1 0 v rfl]; obtain ⟨t, rfl⟩ := h2 0 c rfl; exact int_v) (ints_at (f := fun i => f (i + 1)) (Nat.succ.inj hn) (fun i => h1 (i + 1)) (fun j => h2 (j + 1)))
theorem e_listr (Z : Stat fx) (S : Snd fx r n) (R : Room A n) (F : FR fx env c Wl ow ρ s.heap) {args : List Expr} {p p' pos pos' : Pos} {t : Bool} {vs l : List V} (hg : isGl c (nm "list") = true) (hg' : isGl c (nm "range") = true) (e1 : evL r c ρ args = some (t, vs)) (e2 : rangeV vs = some l) :
    wpAny fx.M A (eval (.Call (.Name (nm "list") p) [.Call (.Name (nm "range") p') args [] pos'] [] pos) env) (EPost fx Wl ow s false (.lst l)) X s := by
  obtain ⟨z1, z2⟩ := Z.bi (nm "list") (.type "list") (by decide)
  refine Call_Name rfl (built_at F hg z1 z2 (callWith_of (P := fun _ => True) rfl (fun h _ => keep_plain ⟨_, .inr rfl⟩) (evalArgs_plain (spliced_cons (e_range Z S R F hg' e1 e2 fun cv s₁ x h1 => spliced_nil ⟨trivial, ?_⟩)))))
  cases h1 with
  | mk rr a b st u w y h1 h2 h3 h4 h5 =>
    exact call_list_range R.handled h1 h2 h3 (by have : (2 : Nat) ^ 24 = 16777216 := by decide
                                                 omega) fun h' tk acc c' kp hd hi => .v (x.trans (.heap kp)) (.mk _ acc c' (F.ext x).freshSize hd (ints_at (f := fun i => a + i * st) (by simpa using hi.1) h5 fun j v q => hi.2 j v (by simpa using q)))
theorem sliceI {e : Expr} {p : Option Expr × Option Expr × Option Expr} {P : Expr → Prop} (h : sliceO e = some p) (k : ∀ q, P (.Slice p.1 p.2.1 p.2.2 q)) : P e := by
  cases e with
  | Slice a b c q => cases h; exact k q
  | _ => exact no h
theorem genI {gs : List Comprehension} {g : Expr × Expr × List Expr} {P : List Comprehension → Prop} (h : genO gs = some g) (k : P [⟨g.1, g.2.1, g.2.2, 0⟩]) : P gs := by
  cases gs with
  | nil => exact no h
  | cons x l =>
    refine iteY h fun hz h => andE hz fun h1 h2 => nilE (Q := fun l => P (x :: l)) h1 ?_
    obtain ⟨a, b, c, d⟩ := x
    have h2 : d = 0 := eq_of_beq h2
    subst h2
    cases h
    exact k
theorem e_fn (Z : Stat fx) (S : SndX fx r n) (R : Room A n) (F : FR fx env c Wl ow ρ s.heap) {f : Str} {args : List Expr} {p pos : Pos} {v : V} (e : fnE r c ρ f args = some v) : wpAny fx.M A (eval (.Call (.Name f p) args [] pos) env) (EPost fx Wl ow s false v) X s := by
  refine iteN e fun hz e => orN hz fun _ hg => iteB e (fun hf e => ?_) fun _ e => e_callF Z S R F (notN hg) e
  have hg := notN hg
  rw [eq_of_beq hf] at hg ⊢
  refine bindE e fun a ea e => mapE e fun l e => bindE e fun q eq e => iteY e fun hz e => andE hz fun hz hg' => andE hz fun _ hr => bindP e fun t vs e1 e2 => oneE ea ?_
  refine callI (P := fun a => wpAny fx.M A (eval (.Call (.Name (nm "list") p) [a] [] pos) env) (EPost fx Wl ow s false (.lst l)) X s) eq fun p' pos' => ?_
  rw [eq_of_beq hr] at hg' ⊢
  exact e_listr Z S.toSnd R F hg hg' e1 e2
theorem e_met (Z : Stat fx) (S : SndX fx r n) (R : Room A n) (F : FR fx env c Wl ow ρ s.heap) {o : Expr} {m : Str} {apos pos : Pos} {args : List Expr} {v : V} (e : metE fx.G r c ρ o m apos args pos = some v) : wpAny fx.M A (eval (.Call (.Attribute o m apos) args [] pos) env) (EPost fx Wl ow s false v) X s := by
  refine iteN e fun hz e => orN hz fun h1 hz => orN hz fun h2 h3 => ?_
  have h1 : (apos.endLine == pos.line) = true := notN h1
  have h2 := of_decide_eq_false h2
  exact iteB e (fun hd e => e_dict Z S.toSnd R F hd h1 (by omega) e) fun _ e => e_meth S R F h3 h1 (by omega) Z e
theorem stepE_E (Z : Stat fx) (G : GenOk fx) (S : SndX fx r n) (R : Room A (n + 1)) (F : FR fx env c Wl ow ρ s.heap) {e : Expr} {t : Bool} {v : V} (h : stepE fx.G r c ρ e = some (t, v)) :
    wpAny fx.M A (eval e env) (EPost fx Wl ow s t v) X s := by
  have R0 := R.le (Nat.le_succ n)
  cases e with
  | Constant => exact f0E h fun w e => e_const e
  | Name => exact e_name F h
  | BoolOp => exact mapP h fun b e => e_bools S.toSnd R0 F e
  | UnaryOp => exact f0E h fun w e => e_un S.toSnd R0 F e
  | BinOp => exact f0E h fun w e => e_bin S.toSnd R0 F e
  | IfExp => exact e_ite S.toSnd R0 F h
  | Compare => exact mapP h fun b e => e_cmp' Z S.toSnd R0 F e
  | List => exact mapP h fun b e => e_List' S.toSnd R0 F e
  | Tuple => exact e_Tuple S.toSnd R0 F h
  | Subscript a i p =>
    revert h
    show (match sliceO i with | some p => (cutE r c ρ a p.1 p.2.1 p.2.2).map f0 | none => idxE r c ρ a i) = some (t, v) → _
    cases q : sliceO i with
    | none => exact fun h => e_sub S.toSnd R0 F q h
    | some p' => exact fun h => f0E h fun w e => sliceI (P := fun i => wpAny fx.M A (eval (.Subscript a i p) env) (EPost fx Wl ow s false w) X s) q fun q => e_slice S.toSnd R0 F e
  | ListComp elt gs sc p => exact bindE h fun g eg h => mapP h fun l e => genI (P := fun gs => wpAny fx.M A (eval (.ListComp elt gs sc p) env) (EPost fx Wl ow s false (.lst l)) X s) eg (e_comp Z G S.toSnd R F e)
  | Call f args kws pos =>
    refine iteY h fun hk h => f0E h fun w e => nilE (Q := fun kws => wpAny fx.M A (eval (.Call f args kws pos) env) (EPost fx Wl ow s false w) X s) hk ?_
    cases f with
    | Name => exact e_fn Z S R0 F e
    | Attribute => exact e_met Z S R0 F e
    | _ => exact no e
  | Attribute o a p => exact bindE h fun x ex h => f0E h fun w e => nameE (Q := fun o => wpAny fx.M A (eval (.Attribute o a p) env) (EPost fx Wl ow s false w) X s) ex fun q => e_attr Z F e
  | _ => exact no h
theorem bI {o : Option Bool} {t b : Bool} {P : Prop} (h : o.map (fun b => f0 (.bool b)) = some (t, .bool b)) (k : o = some b → P) : P := mapI h fun b' e q => k (by cases q; exact e)
theorem stepE_T (Z : Stat fx) (G : GenOk fx) (S : SndX fx r n) (R : Room A (n + 1)) (F : FR fx env c Wl ow ρ s.heap) {e : Expr} {t b : Bool} (h : stepE fx.G r c ρ e = some (t, .bool b)) :
    wpAny fx.M A (isTrue e env (eval e env)) (TPost b s) X s := by
  have R0 := R.le (Nat.le_succ n)
  have hE := stepE_E (X := X) Z G S R F h
  cases e with
  | BoolOp => exact bI h fun e => t_bools S.toSnd R0 F e
  | UnaryOp op e p =>
    cases op with
    | Not =>
      refine mapI h fun w e1 q => mapI e1 fun b' e2 q' => ?_
      cases (q : (t, V.bool b) = (false, w))
      cases q'
      exact t_not S.toSnd R0 F e2
    | _ => exact t_plain hE rfl
  | IfExp => exact t_ite S.toSnd R0 F h
  | Compare => exact bI h fun e => t_cmp' Z S.toSnd R0 F e
  | _ => first | exact t_plain hE rfl | exact no h
theorem FR.anti (F : FR fx env c Wl' ow ρ h) (k : ∀ b, Wl b → Wl' b) (hw : ∀ b, Ws env b → Wl b) : FR fx env c Wl ow ρ h :=
  have kw : ∀ b, Wf Wl ow b → Wf Wl' ow b := fun b q => q.imp (k b) id
  { F with gd := F.gd.anti kw, ws := hw, owl := fun p hp q => F.owl p hp (k _ q), bind := fun x b e => (F.bind x b e).move (fun _ a => a) (fun _ _ m _ => ⟨m, fun _ e => e⟩) (mv_anti kw) }
theorem stepE_U (Z : Stat fx) (G : GenOk fx) (S : SndX fx r n) (R : Room A (n + 1)) (F : FR fx env c Wl ow ρ s.heap) {elt : Expr} {gs : List Comprehension} {sc : Scope} {pos p : Pos} {t : Bool} {v : V} {x : Str} (h : stepE fx.G r c ρ (.ListComp elt gs sc pos) = some (t, v)) (hk : okK c x = true) :
    wpAny fx.M A (evalThenUse (.ListComp elt gs sc pos) env (assign (.Name x p) env)) (fun _ s' => UPost fx env c Wl ow (upd ρ x (.val v)) s s') X s := by
  refine bindE h fun g eg h => mapP h fun ys e => genI (P := fun gs => wpAny fx.M A (evalThenUse (.ListComp elt gs sc pos) env (assign (.Name x p) env)) (fun _ s' => UPost fx env c Wl ow (upd ρ x (.val (.lst ys))) s s') X s) eg (iteN e fun ok e => bindE e fun vs e1 e => iteY e fun hz e2 => ?_)
  refine wpAny_bind (comp_any Z G S.toSnd R F (notN ok) e1 hz e2 (use := some (assign (.Name x p) env)) (Q := fun _ s' => wpAny fx.M A (pure ()) (fun _ s' => UPost fx env c Wl ow (upd ρ x (.val (.lst ys))) s s') X s') fun D C s' hC hD hCD ⟨m, hn⟩ ⟨its, kk, hd, hl⟩ hx => ?_)
  have hCl : ∃ o, s'.heap.get? C = some o := let ⟨o, _, _, ho, _⟩ := hn; ⟨o, ho⟩
  have al : ∀ b, Wf Wl ow b → b ≠ C ∧ b ≠ D := fun b q => let ⟨o, e⟩ := F.alloc b q; ⟨fun z => gone hC (z ▸ e), fun z => gone hD (z ▸ e)⟩
  have F1 : FR fx env c (fun b => Wl b ∨ b = C) ow ρ s'.heap :=
    F.chg (P := fun _ => False) (fun _ q => q.elim) (fun b o _ e => hx.keep b o e) (fun b q => .inl q) (fun b q => match q with | .inl q => .inl q | .inr q => .inr (q ▸ hC)) fun b q => match q with | .inl q => let ⟨o, e⟩ := F.alloc b (.inl q); ⟨o, hx.keep b o e⟩ | .inr q => q ▸ hCl
  have hCw : ¬ Ws env C := fun q => (al C (.inl (F.ws C q))).1 rfl
  have hv : RepV fx (Wf (fun b => Wl b ∨ b = C) ow) s'.heap (.lst ys) (.ref D) := .mk _ its kk (fun q => q.elim (fun q => q.elim (fun q => (al D (.inl q)).2 rfl) fun q => hCD q.symm) fun q => (al D (.inr q)).2 rfl) hd (hl.anti fun b q => q.elim (fun q => q.imp .inl .inl) fun q => .inl (.inr q))
  show wpAny fx.M A (assign (.Name x p) env (.ref D)) _ X s'
  refine a_name F1 hk hv fun s'' st F2 _ => ?_
  have hns : s''.heap.Ns C m := by
    obtain ⟨o, es, ep, ho, q⟩ := hn
    exact ⟨o, es, ep, st.keep C o (fun q => q.elim hCw fun ⟨y, q⟩ => (al C (.inr ⟨y, q⟩)).1 rfl) ho, q⟩
  refine ⟨m, hns, fun h' sb => wpAny_pure ⟨?_, ?_⟩⟩
  · have kC : ∀ b o, s.heap.get? b = some o → b ≠ C := fun b o e q => gone hC (q ▸ e)
    exact ⟨fun b o hb e => (sb.2 b (kC b o e)).trans (st.keep b o hb (hx.keep b o e)), fun y b q => .inl q, fun b o e => let ⟨o', e'⟩ := st.mono b o (hx.keep b o e); ⟨o', (sb.2 b (kC b o e)).trans e'⟩, fun i g e => st.gens i g (hx.gens i g e), fun e => st.bare (hx.bare e), st.os.trans hx.os, fun _ q => q⟩
  · exact F2.chg' (P := (· = C)) (fun b q => ⟨.inr q, q ▸ hCw⟩) (fun b o q e => (sb.2 b q).trans e) F.ws (fun b q => .inl (.inl q)) fun b q => let ⟨o, e⟩ := F2.alloc b (.inl (.inl q)); ⟨o, (sb.2 b (al b (.inl q)).1).trans e⟩
theorem stepR_Snd (Z : Stat fx) (G : GenOk fx) (S : SndX fx r n) : Snd fx (stepR fx.G r) (n + 1) := ⟨fun R F h _ => stepE_E Z G S R F h, fun R F h _ => stepE_T Z G S R F h, fun R F h hk _ => stepE_U Z G S R F h hk⟩
end
end Mine
end
section
open PySem PySem.Calls PyProof.Rows PySem.W
set_option maxRecDepth 10000
namespace Mine
section
variable {fx : Fix} {r : Evs} {n : Nat} {A : Around} {env : Env} {c : Cx} {Wl Wl' W : Addr → Prop} {ow ow' : List (Str × Addr)} {ρ : Rho} {s s' : Shared} {X : Value → Shared → Prop} {h h' : Heap}
theorem FR.own (F : FR fx env c Wl ow ρ h) {x : Str} {a : Addr} (ha : h.get? a = none) (k : Kp h h') (hl : ∃ o, h'.get? a = some o) : FR fx env c Wl ((x, a) :: ow) ρ h' :=
  have F' := F.keeps k
  have mv : Mv (Wf Wl ow) (Wf Wl ((x, a) :: ow)) h h' := fun b o hb e => ⟨fun q => q.elim (fun q => hb (.inl q)) fun ⟨y, q⟩ => (List.mem_cons.mp q).elim (fun q => gone ha ((Prod.mk.inj q).2 ▸ e)) fun q => hb (.inr ⟨y, q⟩), k b o e⟩
  { F' with
    gd := ⟨F.gd.b0, fun b o e => mv b o (F.gd.old b o e).1 (F.gd.old b o e).2, fun b q => q.elim (fun q => F'.alloc b (.inl q)) fun ⟨y, q⟩ => (List.mem_cons.mp q).elim (fun q => (Prod.mk.inj q).2.symm ▸ hl) fun q => F'.alloc b (.inr ⟨y, q⟩)⟩
    owd := List.nodup_cons.mpr ⟨fun q => let ⟨p, hp, e⟩ := List.mem_map.mp q; let ⟨o, ho⟩ := F.alloc p.2 (.inr ⟨p.1, hp⟩); gone ha (e ▸ ho), F.owd⟩
    owl := fun p hp q => (List.mem_cons.mp hp).elim (fun z => let ⟨o, ho⟩ := F.alloc a (.inl (by rw [z] at q; exact q)); gone ha ho) fun hp => F.owl p hp q
    bind := fun y b e => (F.bind y b e).move (fun _ a => a.keeps k) (fun d z hm _ => ⟨List.mem_cons_of_mem _ hm, k d⟩) mv }
theorem Stp.own {x : Str} {a : Addr} (hx : x ≠ objMark) (e : Ext s s') (ha : s.heap.get? a = none) : Stp env ow ((x, a) :: ow) s s' :=
  ⟨fun b o _ q => e.keep b o q, fun y b q => by
    rcases List.mem_cons.mp q with q | q
    · rw [(Prod.mk.inj q).2]; exact .inr ha
    · exact .inl q, fun b o q => ⟨o, e.keep b o q⟩, e.gens, e.bare, e.os, fun b q => by
    rcases List.mem_cons.mp q with q | q
    · exact absurd (Prod.mk.inj q).1.symm hx
    · exact q⟩
end
end Mine
end
section
open PySem PySem.Calls PyProof.Rows PySem.W
set_option maxRecDepth 10000
namespace Mine
section
variable {fx : Fix} {r : Evs} {n : Nat} {A : Around} {env : Env} {c : Cx} {Wl Wl' W : Addr → Prop} {ow ow' : List (Str × Addr)} {ρ : Rho} {s s' : Shared} {X : Value → Shared → Prop} {h h' : Heap}
theorem PendB.move {x : Str} {cv : Value} {b : Bd} (p : PendB fx Wl ow h x cv b) (ho : ∀ y d o, (y, d) ∈ ow → h.get? d = some o → (y, d) ∈ ow' ∧ h'.get? d = some o) (mv : Mv (Wf Wl ow) (Wf Wl' ow') h h') (sub : ∀ p ∈ ow, p ∈ ow') : PendB fx Wl' ow' h' x cv b := match b, cv, p with
  | .val _, _, p => RepV.move fx mv _ _ p
  | .own _, _, .mk a h1 h2 => .mk a (sub _ h1) (h2.move (fun o e => (ho _ a o h1 e).2) (fun d o hm e => ho _ d o hm e) mv)
theorem PendB.more {x : Str} {cv : Value} {b : Bd} (p : PendB fx Wl ow h x cv b) (k : Kp h h') (sub : ∀ p ∈ ow, p ∈ ow') (grow : ∀ y d, (y, d) ∈ ow' → (y, d) ∈ ow ∨ h.get? d = none) : PendB fx Wl ow' h' x cv b :=
  p.move (fun y d o m e => ⟨sub _ m, k d o e⟩) (fun b o hb e => ⟨fun q => q.elim (fun q => hb (.inl q)) fun ⟨y, q⟩ => (grow y b q).elim (fun q => hb (.inr ⟨y, q⟩)) fun q => gone q e, k b o e⟩) sub
noncomputable def PendL (fx : Fix) (Wl : Addr → Prop) (ow : List (Str × Addr)) (h : Heap) : List (Str × Bd) → List Value → Prop
  | [], cs => cs = []
  | p :: l, cs => ConsAt (fun c => PendB fx Wl ow h p.1 c p.2) (PendL fx Wl ow h l) cs
theorem PendL.more (k : Kp h h') (sub : ∀ p ∈ ow, p ∈ ow') (grow : ∀ y d, (y, d) ∈ ow' → (y, d) ∈ ow ∨ h.get? d = none) : ∀ {l : List (Str × Bd)} {cs : List Value}, PendL fx Wl ow h l cs → PendL fx Wl ow' h' l cs
  | [], _, e => e
  | _ :: _, _, e => ConsAt.imp e (fun _ p => p.more k sub grow) (fun _ q => PendL.more k sub grow q)
theorem PendL.length : ∀ {l : List (Str × Bd)} {cs : List Value}, PendL fx Wl ow h l cs → cs.length = l.length
  | [], cs, e => (e : cs = []) ▸ rfl
  | _ :: l, _, .mk c r _ q => congrArg (· + 1) (PendL.length (l := l) (cs := r) q)
structure Grw (ow ow' : List (Str × Addr)) (s : Shared) : Prop where
  sub : ∀ p ∈ ow, p ∈ ow'
  grow : ∀ y d, (y, d) ∈ ow' → (y, d) ∈ ow ∨ (s.heap.get? d = none ∧ y ≠ objMark)
theorem Grw.refl : Grw ow ow s := ⟨fun _ hp => hp, fun _ _ q => .inl q⟩
theorem Grw.trans {s₁ : Shared} {ow₂ : List (Str × Addr)} (x : Grw ow ow' s) (k : Ext s s₁) (y : Grw ow' ow₂ s₁) : Grw ow ow₂ s := ⟨fun p hp => y.sub p (x.sub p hp), fun z d q => (y.grow z d q).elim (x.grow z d) fun ⟨q, hz⟩ => .inr ⟨by
  cases e : s.heap.get? d with
  | none => rfl
  | some o => exact gone q (k.keep d o e), hz⟩⟩
theorem Grw.none {y : Str} {d : Addr} (g : Grw ow ow' s) (q : (y, d) ∈ ow') : (y, d) ∈ ow ∨ s.heap.get? d = none := (g.grow y d q).imp_right And.left
theorem Grw.stp (g : Grw ow ow' s) (x : Ext s s') : Stp env ow ow' s s' := ⟨fun b o _ e => x.keep b o e, fun _ _ q => g.none q, fun b o e => ⟨o, x.keep b o e⟩, x.gens, x.bare, x.os, fun b q => (g.grow _ b q).resolve_right fun z => z.2 rfl⟩
inductive PPost (fx : Fix) (env : Env) (c : Cx) (Wl : Addr → Prop) (ow : List (Str × Addr)) (ρ : Rho) (x : Str) (b : Bd) (s : Shared) (cv : Value) (s' : Shared) : Prop
  | mk (ow' : List (Str × Addr)) : Ext s s' → Grw ow ow' s → FR fx env c Wl ow' ρ s'.heap → PendB fx Wl ow' s'.heap x cv b → PPost fx env c Wl ow ρ x b s cv s'
theorem mine (F : FR fx env c Wl ow ρ s.heap) {x : Str} (hxm : x ≠ objMark) {l : List V} {its : Array Value} {s₀ : Shared} (x1 : Ext s₀ s) (hl : RepL fx (Wf Wl ow) s.heap l its.toList) : PPost fx env c Wl ow ρ x (.own (.lst l)) s₀ (.ref s.heap.objs.size) { s with heap := s.heap.push { cls := .type "list", data := .seq its } } := by
  have hn1 : s.heap.get? s.heap.objs.size = none := size_none (.refl s) rfl
  refine .mk ((x, s.heap.objs.size) :: ow) (x1.trans .push) ⟨fun p hp => List.mem_cons_of_mem _ hp, fun y d q => (List.mem_cons.mp q).elim (fun q => .inr ?_) .inl⟩ (F.own hn1 Kp.push ⟨_, Heap.get?_push_size _ rfl⟩) (.mk _ List.mem_cons_self (.mk its 0 (Heap.get?_push_size _ rfl) (hl.move fx fun b o hb e => ⟨fun q => q.elim (fun q => hb (.inl q)) fun ⟨y, q⟩ => (List.mem_cons.mp q).elim (fun q => gone hn1 ((Prod.mk.inj q).2 ▸ e)) fun q => hb (.inr ⟨y, q⟩), Kp.push b o e⟩)))
  rw [(Prod.mk.inj q).2, (Prod.mk.inj q).1]; exact ⟨size_none x1 rfl, hxm⟩
theorem isAdd_eq {op : Operator} (h : isAdd op = true) : op = .Add := by cases op <;> first | rfl | cases h
theorem p_sound (S : Snd fx r n) (R : Room A n) (F : FR fx env c Wl ow ρ s.heap) {x : Str} {e : Expr} {b : Bd} (h : asgB r c ρ x e = some b) :
    okK c x = true ∧ wpAny fx.M A (eval e env) (PPost fx env c Wl ow ρ x b s) X s := by
  refine iteN h fun hk h => ?_
  have hk : okK c x = true := notN hk
  refine ⟨hk, iteB h (fun _ h => ?_) fun _ h => mapE h fun v e1 => S.evV R F e1 fun cv s₁ x1 F1 h1 => .mk ow x1 .refl F1 h1⟩
  have hxm : x ≠ objMark := fun q => by
    rw [q, okK, show c.k.lookup objMark = none from F.nodbg] at hk
    exact absurd hk (by decide)
  refine mapE h fun l e1 => ?_
  cases e with
  | List es p => exact e_List S R F e1 fun its s₁ x1 F1 hl => mine F1 hxm x1 hl
  | BinOp p op q pos =>
    refine iteY e1 fun ho e1 => bindP e1 fun _ _ e2 e1 => bindP e1 fun _ _ e3 e1 => bindE e1 fun la ea e1 => bindE e1 fun lb eb e1 => iteY e1 fun hz e1 => someE e1 ?_
    rw [isAdd_eq ho]
    refine wpAny_BinOp (S.ev R F e2 fun cv s₁ x1 F1 h1 => S.ev R F1 e3 fun dv s₂ x2 F2 h2 => (RepT.keeps x2.keep _ _ h1).lstO ea fun a its k ho hl z1 => h2.lstO eb fun a' its' k' ho' hl' z2 => P.add_list ho ho' (mine F2 hxm (x1.trans x2) ?_) ?_)
    · rw [Array.toList_append]; exact hl.append hl'
    · rw [z1, z2]; exact lenOk_le hz
  | _ => exact no e1
inductive PsPost (fx : Fix) (env : Env) (c : Cx) (Wl : Addr → Prop) (ow : List (Str × Addr)) (ρ : Rho) (l : List (Str × Bd)) (s : Shared) (cvs : List Value) (s' : Shared) : Prop
  | mk (ow' : List (Str × Addr)) : Ext s s' → Grw ow ow' s → FR fx env c Wl ow' ρ s'.heap → PendL fx Wl ow' s'.heap l cvs → PsPost fx env c Wl ow ρ l s cvs s'
structure PsI (c : Cx) (ts es : List Expr) (l : List (Str × Bd)) : Prop where
  ok : ∀ p ∈ l, okK c p.1 = true
  ts : ∃ ps : List Pos, ps.length = l.length ∧ ts = (l.zip ps).map fun q => Expr.Name q.1.1 q.2
  len : es.length = l.length
theorem ps_sound (S : Snd fx r n) (R : Room A n) {pos : Pos} : ∀ {ts es : List Expr} {l : List (Str × Bd)} {ow : List (Str × Addr)} {s : Shared}, FR fx env c Wl ow ρ s.heap → asgBs r c ρ ts es = some l →
    PsI c ts es l ∧ wpAny fx.M A (spliced (backTo pos (starEach es env))) (PsPost fx env c Wl ow ρ l s) X s
  | [], [], l, ow, s, F, h => someE h ⟨⟨fun _ h => (nomatch h), ⟨[], rfl, rfl⟩, rfl⟩, spliced_nil (.mk ow (.refl s) .refl F rfl)⟩
  | [], _ :: _, _, _, _, _, h => no h
  | t :: ts, [], _, _, _, _, h => no h
  | t :: ts, e :: es, l, ow, s, F, h => iteN h fun hs h => bindE h fun x ex h => bindE h fun b e1 h => mapE h fun l' e2 => by
    obtain ⟨k1, w1⟩ := p_sound (X := X) S R F e1
    obtain ⟨⟨g1, ⟨ps, g2, g3⟩, g5⟩, _⟩ := ps_sound (pos := pos) S R F e2
    refine ⟨⟨fun q hq => (List.mem_cons.mp hq).elim (fun q => q ▸ k1) (g1 q), nameE (Q := fun t => ∃ ps : List Pos, ps.length = ((x, b) :: l').length ∧ t :: ts = (((x, b) :: l').zip ps).map fun q => Expr.Name q.1.1 q.2) ex fun p => ⟨p :: ps, congrArg (· + 1) g2, by rw [g3]; rfl⟩, congrArg (· + 1) g5⟩, ?_⟩
    rw [starEach_plain hs]
    refine spliced_cons (wm w1 fun cv s₁ h1 => ?_)
    obtain ⟨ow₁, x1, gr1, F1, p1⟩ := h1
    refine wm (ps_sound (pos := pos) S R F1 e2).2 fun cvs s₂ h2 => ?_
    obtain ⟨ow₂, x2, gr2, F2, p2⟩ := h2
    exact .mk ow₂ (x1.trans x2) (gr1.trans x1 gr2) F2 (.mk cv cvs (p1.more x2.keep gr2.sub fun y d q => gr2.none q) p2)
theorem PendB.stp {x : Str} {cv : Value} {b : Bd} (F : FR fx env c Wl ow ρ s.heap) (k : ∀ b o, ¬ Ws env b → s.heap.get? b = some o → s'.heap.get? b = some o) (p : PendB fx Wl ow s.heap x cv b) : PendB fx Wl ow s'.heap x cv b :=
  p.move (fun y d o m e => ⟨m, k d o (fun q => F.owl _ m (F.ws d q)) e⟩) (fun b o hb e => ⟨hb, k b o (fun q => hb (.inl (F.ws b q))) e⟩) fun _ m => m
theorem PendL.stp {ρ : Rho} {s s' : Shared} (F : FR fx env c Wl ow ρ s.heap) (k : ∀ b o, ¬ Ws env b → s.heap.get? b = some o → s'.heap.get? b = some o) : ∀ {l : List (Str × Bd)} {cs : List Value}, PendL fx Wl ow s.heap l cs → PendL fx Wl ow s'.heap l cs
  | [], _, e => e
  | _ :: _, _, e => ConsAt.imp e (fun _ => PendB.stp F k) (fun _ => PendL.stp F k)
noncomputable def StoresL (fx : Fix) (A : Around) (env : Env) (X : Value → Shared → Prop) : List (Str × Bd) → List (Value → Sem Unit) → Prop
  | [], fs => fs = []
  | p :: l, fs => ∃ f r, fs = f :: r ∧ (∀ v (s : Shared) (Q : Unit → Shared → Prop), wpAny fx.M A (storeName env p.1 v) Q X s → wpAny fx.M A (f v) Q X s) ∧ StoresL fx A env X l r
theorem st_list : ∀ {l : List (Str × Bd)} {cs : List Value} {ρ : Rho} {s : Shared} {fs : List (Value → Sem Unit)}, FR fx env c Wl ow ρ s.heap → PendL fx Wl ow s.heap l cs → (∀ p ∈ l, okK c p.1 = true) → StoresL fx A env X l fs →
    wpAny fx.M A (assignInOrder fs cs) (fun _ s' => UPost fx env c Wl ow (updL ρ l) s s') X s
  | [], cs, ρ, s, fs, F, e, _, hf => by
    cases (hf : fs = [])
    exact assignInOrder_nil ⟨.refl s, F⟩
  | p :: l, _, ρ, s, _, F, .mk cv cs hp hl, hk, ⟨f, fs, e2, hf, hr⟩ => e2 ▸ assignInOrder_cons (hf cv s _ (F.putB (hk p List.mem_cons_self) hp fun s₁ st F1 _ k =>
    wm (st_list F1 (PendL.stp F k hl) (fun q hq => hk q (List.mem_cons_of_mem _ hq)) hr) fun _ s₂ h2 => ⟨st.trans h2.1, h2.2⟩))
theorem StoresL.map {f : Str × Bd → Value → Sem Unit} (hf : ∀ q v (s : Shared) (Q : Unit → Shared → Prop), wpAny fx.M A (storeName env q.1 v) Q X s → wpAny fx.M A (f q v) Q X s) : ∀ l : List (Str × Bd), StoresL fx A env X l (l.map f)
  | [] => rfl
  | p :: l => ⟨_, _, rfl, hf p, StoresL.map hf l⟩
theorem StoresL.names : ∀ {l : List (Str × Bd)} {ps : List Pos}, ps.length = l.length → StoresL fx A env X l ((l.zip ps).map fun q => assign (.Name q.1.1 q.2) env)
  | [], _, _ => rfl
  | _ :: _, [], h => by cases h
  | p :: l, q :: ps, h => ⟨_, _, rfl, fun v s Q h => wpAny_assign_Name h, StoresL.names (by simpa using h)⟩
end
end Mine
end
section
open PySem PySem.Calls PyProof.Rows PySem.W
set_option maxRecDepth 10000
namespace Mine
section
variable {fx : Fix} {r : Evs} {n : Nat} {A : Around} {env : Env} {c : Cx} {Wl Wl' W : Addr → Prop} {ow ow' : List (Str × Addr)} {ρ ρ' : Rho} {s s' : Shared} {X : Value → Shared → Prop} {h h' : Heap} {fl : Fl}
theorem SPost.trans {f : Flow} {s₁ : Shared} (st : Stp env ow ow' s s₁) (p : SPost fx env c Wl ow' ρ' fl s₁ f s') : SPost fx env c Wl ow ρ' fl s f s' := match p with
  | .mk ow₂ h1 h2 h3 => .mk ow₂ (st.trans h1) h2 h3
theorem SPost.ext {f : Flow} {s₁ : Shared} (x : Ext s s₁) (p : SPost fx env c Wl ow ρ' fl s₁ f s') : SPost fx env c Wl ow ρ' fl s f s' := p.trans (.of_ext x)
theorem Stp.post (st : Stp env ow ow' s s') (F : FR fx env c Wl ow' ρ s'.heap) : SPost fx env c Wl ow ρ .next s .next s' := .mk ow' st F rfl
theorem x_return (S : Snd fx r n) (R : Room A n) (F : FR fx env c Wl ow ρ s.heap) {e : Option Expr} {pos : Pos} (h : (e.bind fun e => (r.E c ρ e).map fun p => (Fl.ret p.2, ρ)) = some (fl, ρ')) :
    wpAny fx.M A (exec (.Return e pos) env) (SPost fx env c Wl ow ρ' fl s) X s := match e, h with
  | some e, h => mapP h fun p e1 => wpAny_Return_some (S.ev R F (t := p.1) (v := p.2) e1 fun cv s₁ x1 F1 h1 => .mk ow (.of_ext x1) F1 (.mk cv h1))
theorem x_if (S : SndX fx r n) (R : Room A n) (F : FR fx env c Wl ow ρ s.heap) {t : Expr} {b o : List Stmt} {pos : Pos} (h : ((tstE r c ρ t).bind fun x => if x then r.X c ρ b else r.X c ρ o) = some (fl, ρ')) :
    wpAny fx.M A (exec (.If t b o pos) env) (SPost fx env c Wl ow ρ' fl s) X s :=
  bindE h fun u e1 h => wpAny_If (S.toSnd.tst R F e1 fun _ x F1 => match u, h with
    | true, h => ifT (wm (S.X R F1 h X) fun _ _ h2 => h2.ext x)
    | false, h => ifF (wm (S.X R F1 h X) fun _ _ h2 => h2.ext x))
inductive WhI (fx : Fix) (r : Evs) (env : Env) (c : Cx) (Wl : Addr → Prop) (ow : List (Str × Addr)) (t : Expr) (b : List Stmt) (fl : Fl) (ρ' : Rho) (s : Shared) (k : Nat) (s₁ : Shared) : Prop
  | mk (ow₁ : List (Str × Addr)) (ρ₁ : Rho) : Stp env ow ow₁ s s₁ → FR fx env c Wl ow₁ ρ₁ s₁.heap → whileX r c t b k ρ₁ = some (fl, ρ') → WhI fx r env c Wl ow t b fl ρ' s k s₁
theorem x_while (S : SndX fx r n) (R : Room A n) (F : FR fx env c Wl ow ρ s.heap) {t : Expr} {b : List Stmt} {pos : Pos} {k : Nat} (h : whileX r c t b k ρ = some (fl, ρ')) :
    wpAny fx.M A (exec (.While t b [] pos) env) (SPost fx env c Wl ow ρ' fl s) X s := by
  refine wpAny_While (codeAny_whileLoop (I := WhI fx r env c Wl ow t b fl ρ' s) (fun k s₁ hI => ?_) k ⟨ow, ρ, .refl s, F, h⟩)
  obtain ⟨ow₁, ρ₁, st, F1, h⟩ := hI
  cases k with
  | zero => exact no h
  | succ k =>
    refine bindE h fun u e1 h => S.toSnd.tst R F1 e1 fun s₂ x F2 => ?_
    cases u with
    | false => exact ifF (wpAny_execs_nil (someP h ((st.trans (.of_ext x)).post F2)))
    | true =>
      refine ifT (bindP h fun f ρ₂ e2 h => wm (S.X R F2 e2 _) fun f' s₃ h2 => ?_)
      obtain ⟨ow₂, st2, F3, hf⟩ := h2
      have st3 := st.trans ((Stp.of_ext x).trans st2)
      cases f with
      | next => cases (hf : f' = _); exact ⟨k, Nat.lt_succ_self k, ow₂, ρ₂, st3, F3, h⟩
      | cont => cases (hf : f' = _); exact ⟨k, Nat.lt_succ_self k, ow₂, ρ₂, st3, F3, h⟩
      | brk => cases (hf : f' = _); exact someP h (st3.post F3)
      | ret v => obtain ⟨cv, hc⟩ := hf; exact someP h (.mk ow₂ st3 F3 (.mk cv hc))
theorem swaps_no {e : Expr} {t : Option Expr} {line : Nat} (h : anyComp e = false) : swapsWith e t line env = pure false := by
  unfold swapsWith
  cases e <;> first | rfl | cases h
noncomputable def isName : Expr → Bool
  | .Name _ _ => true
  | _ => false
theorem swaps_other {e t : Expr} {line : Nat} (h : isName t = false) : swapsWith e (some t) line env = pure false := by
  unfold swapsWith
  split
  · split
    · cases ‹_ = _›
    · rename_i q; rw [Option.some.inj q] at h; cases h
    · rfl
  · rfl
theorem compI {e : Expr} {P : Expr → Prop} (h : anyComp e = true) (ho : oddComp e = false) (k : ∀ a b c d, P (.ListComp a b c d)) : P e := by
  cases e with
  | ListComp => exact k _ _ _ _
  | SetComp => cases ho
  | DictComp => cases ho
  | _ => cases h
theorem usual_name (F : FR fx env c Wl ow ρ s.heap) {x : Str} {p pos : Pos} {e : Expr} {b : Bd} (hk : okK c x = true) (w : wpAny fx.M A (eval e env) (PPost fx env c Wl ow ρ x b s) X s) (hs : swapsWith e (some (.Name x p)) pos.line env = pure false) :
    wpAny fx.M A (exec (.Assign [.Name x p] e pos) env) (SPost fx env c Wl ow (upd ρ x b) .next s) X s :=
  wpAny_Assign_Name (wm w fun cv s₁ ⟨ow₁, x1, gr, F1, pd⟩ => F1.putB hk pd fun s₂ st F2 _ _ => ((gr.stp x1).trans st).post F2) hs
theorem x_name (S : Snd fx r n) (R : Room A n) (F : FR fx env c Wl ow ρ s.heap) {x : Str} {p pos : Pos} {e : Expr} (h : (if oddComp e then Option.none else (asgB r c ρ x e).map fun b => upd ρ x b) = some ρ') :
    wpAny fx.M A (exec (.Assign [.Name x p] e pos) env) (SPost fx env c Wl ow ρ' .next s) X s := by
  refine iteN h fun ho h => mapE h fun b e1 => ?_
  obtain ⟨hk, w⟩ := p_sound (X := X) S R F e1
  cases hc : anyComp e with
  | false => exact usual_name F hk w (swaps_no hc)
  | true =>
    clear w
    revert e1
    refine compI (P := fun e => asgB r c ρ x e = some b → wpAny fx.M A (exec (.Assign [.Name x p] e pos) env) (SPost fx env c Wl ow (upd ρ x b) .next s) X s) hc ho fun elt gs sc q e1 => ?_
    obtain ⟨hk, w⟩ := p_sound (X := X) S R F e1
    have : ∃ bb, swapsWith (.ListComp elt gs sc q) (some (.Name x p)) pos.line env = pure bb := ⟨_, rfl⟩
    obtain ⟨bb, hb⟩ := this
    cases bb with
    | false => exact usual_name F hk w hb
    | true =>
      rw [exec_Assign_Name_used x p _ pos hb]
      exact wpAny_bind (wpAny_standAt (wpAny_bind (iteN e1 fun _ e1 => iteB e1 (fun _ e1 => mapE e1 fun v e1 => no e1) fun _ e1 => mapE e1 fun v e1 => wm (S.U R F (pureI e1) hk X) fun _ s₁ h1 => wpAny_pure (h1.1.post h1.2))))
end
end Mine
end
section
open PySem PySem.Calls PyProof.Rows PySem.W
set_option maxRecDepth 10000
namespace Mine
mutual
theorem RepT.anti {fx : Fix} {Wl Wl' W W' : Addr → Prop} {h : Heap} (H1 : ∀ b, Wl' b → Wl b) (H2 : ∀ b, W' b → W b) : ∀ (v : V) (c : Value), RepT fx Wl W h v c → RepT fx Wl' W' h v c
  | .none, _, e => e
  | .bool _, _, e => e
  | .int _, _, e => e
  | .str _, _, e => e
  | .tup l, _, e => SeqAt.imp e (mv_anti H1) (RepTL.anti H1 H2 l)
  | .lst _, _, e => SeqAt.imp e (mv_anti H1) fun _ q => q.anti H2
  | .dct _, _, e => DctAt.imp e (mv_anti H1)
  | .obj _ _, _, e => RepV.anti e H2
theorem RepTL.anti {fx : Fix} {Wl Wl' W W' : Addr → Prop} {h : Heap} (H1 : ∀ b, Wl' b → Wl b) (H2 : ∀ b, W' b → W b) : ∀ (vs : List V) (cs : List Value), RepTL fx Wl W h vs cs → RepTL fx Wl' W' h vs cs
  | [], _, e => e
  | v :: vs, _, e => ConsAt.imp e (RepT.anti H1 H2 v) (RepTL.anti H1 H2 vs)
end
section
variable {fx : Fix} {r : Evs} {n : Nat} {A : Around} {env : Env} {c : Cx} {Wl Wl' W : Addr → Prop} {ow ow' : List (Str × Addr)} {ρ ρ' : Rho} {s s' : Shared} {X : Value → Shared → Prop} {h h' : Heap} {fl : Fl}
theorem Stp.chg0 {wr : Addr → Prop} {gi : Nat → Prop} {s₁ : Shared} (x : Stp env ow ow' s s₁) (y : Chg0 wr gi s₁ s') (hw : ∀ b, wr b → s.heap.get? b = none) (hg : ∀ i, gi i → s.gens[i]? = none) : Stp env ow ow' s s' :=
  ⟨fun b o hb e => y.keep b o (fun q => by rw [hw b q] at e; cases e) (x.keep b o hb e), x.grow, fun b o e => let ⟨o', e'⟩ := x.mono b o e; ⟨o', y.keep b o' (fun q => by rw [hw b q] at e; cases e) e'⟩,
    fun i g e => y.gens i g (fun q => by rw [hg i q] at e; cases e) (x.gens i g e), fun e => y.bare (x.bare e), y.os.trans x.os, x.mark⟩
theorem FlR.anti {wr : Addr → Prop} {f : Flow} (x : FlR fx (fun b => Wl b ∨ wr b) ow h fl f) : FlR fx Wl ow h fl f := by
  cases fl with
  | ret v => exact match x with | .mk cv hc => .mk cv (RepT.anti (fun b q => .inl q) (fun b q => q.imp .inl id) _ _ hc)
  | _ => exact x
inductive ForI (fx : Fix) (r : Evs) (env : Env) (c : Cx) (Wl : Addr → Prop) (ow : List (Str × Addr)) (target : Expr) (b : List Stmt) (fl : Fl) (ρ' : Rho) (s s₂ : Shared) (St : (Addr → Prop) → (Nat → Prop) → List V → Shared → Prop) (gi : Nat → Prop) (k : Nat) (s₁ : Shared) : Prop
  | mk (vs : List V) (wr : Addr → Prop) (ow₁ : List (Str × Addr)) (ρ₁ : Rho) : vs.length = k → St wr gi vs s₁ → FR fx env c (fun b => Wl b ∨ wr b) ow₁ ρ₁ s₁.heap → Stp env ow ow₁ s s₁ → (∀ b, wr b → s.heap.get? b = none) →
    (∀ y b, (y, b) ∈ ow₁ → (y, b) ∈ ow ∨ s₂.heap.get? b = none) → (∀ b o, s₂.heap.get? b = some o → ∃ o', s₁.heap.get? b = some o') → forX r c target b vs ρ₁ = some (fl, ρ') → ForI fx r env c Wl ow target b fl ρ' s s₂ St gi k s₁
theorem x_for (Z : Stat fx) (G : GenOk fx) (S : SndX fx r n) (R : Room A (n + 1)) (F : FR fx env c Wl ow ρ s.heap) {target iter : Expr} {b : List Stmt} {pos : Pos}
    (h : ((itE r c ρ target iter).bind fun vs => forX r c target b vs ρ) = some (fl, ρ')) :
    wpAny fx.M A (exec (.For target iter b [] pos) env) (SPost fx env c Wl ow ρ' fl s) X s := by
  have R0 := R.le (Nat.le_succ n)
  refine bindE h fun vs e1 h => ?_
  obtain ⟨hs, hit⟩ := it_sound Z G S.toSnd R F e1
  refine wpAny_For (wm (hit X X) fun xv s₁ h1 => wm h1 fun it s₂ h2 => ?_) (not_set hs)
  obtain ⟨_, I, St, wr, gi, It, st, ext, hwr, hgi⟩ := h2
  have wsF : ∀ b, Ws env b → s.heap.get? b ≠ none := fun b q e => let ⟨o, ho⟩ := F.alloc b (.inl (F.ws b q)); gone e ho
  have F0 : FR fx env c (fun b => Wl b ∨ wr b) ow ρ s₂.heap :=
    F.chg (P := fun _ => False) (fun _ q => q.elim) (fun b o _ e => ext.keep b o e) (fun b q => .inl q) (fun b q => q.imp id (hwr b)) fun b q => q.elim (fun q => let ⟨o, e⟩ := F.alloc b (.inl q); ⟨o, ext.keep b o e⟩) (It.live st b)
  refine codeAny_forLoop_any (I := ForI fx r env c Wl ow target b fl ρ' s s₂ St gi) (fun k s₁ hI => ?_) vs.length (.mk vs wr ow ρ rfl st F0 (.of_ext ext) hwr (fun y b q => .inl q) (fun b o e => ⟨o, e⟩) h)
  clear h1 st hwr F0 h e1
  obtain ⟨vs, wr, ow₁, ρ₁, rfl, st, F1, sp, hwr, gr, mono, h⟩ := hI
  cases vs with
  | nil =>
    refine wm (It.done st _) fun o s₃ h3 => ?_
    obtain ⟨rfl, ch⟩ := h3
    refine wpAny_execs_nil (someP h ((sp.chg0 ch hwr hgi).post ?_))
    exact F1.chg' (P := wr) (fun b q => ⟨.inr q, fun z => wsF b z (hwr b q)⟩) ch.keep F.ws (fun b q => .inl (.inl q)) fun b q => by
      obtain ⟨o', e'⟩ := F.alloc b (.inl q)
      have hb : ¬ wr b := fun z => gone (hwr b z) e'
      obtain ⟨o, e⟩ := F1.alloc b (.inl (.inl q)); exact ⟨o, ch.keep b o hb e⟩
  | cons v vs =>
    refine bindE h fun ρ₂ e2 h => bindP h fun f ρ₃ e3 h => ?_
    have hU : ∀ b, Wf Wl ow₁ b → (∃ o, s₁.heap.get? b = some o) ∧ (Wf Wl ow b ∨ s₂.heap.get? b = none) := fun b q => ⟨F1.alloc b (q.imp .inl id), q.elim (fun q => .inl (.inl q)) fun ⟨y, q⟩ => (gr y b q).imp (fun q => .inr ⟨y, q⟩) id⟩
    refine wm (It.item (U := Wf Wl ow₁) st hU (notedBy (model fx.prog fx.w) A env fun e s' => cameBackBy fx.M A env X e s') (notedBy (model fx.prog fx.w) A env fun e s' => cameBackBy fx.M A env X e s')) fun o s₃ h3 => ?_
    obtain ⟨cv, _, h3⟩ := h3
    refine wm h3 fun _ s₃ h3 => ?_
    obtain ⟨wr', hcv, st', ch⟩ := h3
    have hwr' : ∀ b, wr' b → s.heap.get? b = none := fun b q => (ch.grow b q).elim (hwr b) fun q => by
      cases e : s.heap.get? b with
      | none => rfl
      | some o => exact let ⟨o', e'⟩ := sp.mono b o e; gone q e'
    have monoC : ∀ b o, s₁.heap.get? b = some o → ∃ o', s₃.heap.get? b = some o' := fun b o e => by
      by_cases hw : wr b
      · exact ch.live b (ch.sub b hw)
      · exact ⟨o, ch.keep b o hw e⟩
    have F3 : FR fx env c (fun b => Wl b ∨ wr' b) ow₁ ρ₁ s₃.heap :=
      F1.chg (P := wr) (fun b q => ⟨.inr q, fun z => wsF b z (hwr b q)⟩) ch.keep (fun b q => q.imp id (ch.sub b)) (fun b q => q.elim (fun q => .inl (.inl q)) fun q => (ch.grow b q).imp .inr id) (fun b q => q.elim (fun q => let ⟨o, e⟩ := F1.alloc b (.inl (.inl q)); monoC b o e) (ch.live b))
    have sp3 : Stp env ow ow₁ s s₃ := sp.chg0 ch.toChg0 hwr hgi
    refine wm (b_sound R0 F3 e2 (hcv.anti fun b q => q.elim (fun q => q.imp .inl id) fun q => .inl (.inr q))) fun _ s₄ h4 => ?_
    obtain ⟨sp4, F4, _⟩ := h4
    refine wm (S.X R0 F4 e3 _) fun f' s₅ h5 => ?_
    obtain ⟨ow₂, sp5, F5, hf⟩ := h5
    have sp45 := sp4.trans sp5
    have spA := sp3.trans sp45
    have notW : ∀ b, wr' b ∨ Rd (Wf Wl ow) s₂.heap b → ¬ Wf (Ws env) ow₁ b := fun b q z => q.elim (fun q => z.elim (fun z => wsF b z (hwr' b q)) fun ⟨y, z⟩ => F3.owl _ z (.inr q)) fun ⟨q1, o, q2⟩ => z.elim (fun z => q1 (.inl (F.ws b z))) fun ⟨y, z⟩ => (gr y b z).elim (fun z => q1 (.inr ⟨y, z⟩)) fun z => gone z q2
    have st5 := It.frame (s' := s₅) st' (fun b o q e => sp45.keep b o (notW b q) e) (fun i g _ e => sp45.gens i g e)
    have up : ∀ b o, s₂.heap.get? b = some o → ∃ o', s₃.heap.get? b = some o' := fun b o e => let ⟨o', e'⟩ := mono b o e; monoC b o' e'
    have gr5 : ∀ y b, (y, b) ∈ ow₂ → (y, b) ∈ ow ∨ s₂.heap.get? b = none := fun y b q => (sp45.grow y b q).elim (gr y b) fun q => by
      cases e : s₂.heap.get? b with
      | none => exact .inr rfl
      | some o => exact let ⟨o', e'⟩ := up b o e; gone q e'
    have mono5 : ∀ b o, s₂.heap.get? b = some o → ∃ o', s₅.heap.get? b = some o' := fun b o e => let ⟨o', e'⟩ := up b o e; sp45.mono b o' e'
    have Fe : FR fx env c Wl ow₂ ρ₃ s₅.heap := F5.anti (fun b q => .inl q) F.ws
    cases f with
    | next => cases (hf : f' = _); exact ⟨vs.length, Nat.lt_succ_self _, .mk vs wr' ow₂ ρ₃ rfl st5 F5 spA hwr' gr5 mono5 h⟩
    | cont => cases (hf : f' = _); exact ⟨vs.length, Nat.lt_succ_self _, .mk vs wr' ow₂ ρ₃ rfl st5 F5 spA hwr' gr5 mono5 h⟩
    | brk => cases (hf : f' = _); exact someP h (spA.post Fe)
    | ret v => obtain ⟨cv', hc⟩ := hf.anti; exact someP h (.mk ow₂ spA Fe (.mk cv' hc))
end
end Mine
end
section
open PySem PySem.Calls PyProof.Rows PySem.W
set_option maxRecDepth 10000
namespace Mine
section
variable {fx : Fix} {r : Evs} {n : Nat} {A : Around} {env : Env} {c : Cx} {Wl Wl' W : Addr → Prop} {ow ow' : List (Str × Addr)} {ρ ρ' : Rho} {s s' : Shared} {X : Value → Shared → Prop} {h h' : Heap} {fl : Fl}
theorem fm_len {α β : Type} {f : α → Option β} : ∀ {l : List α}, (l.filterMap f).length ≤ l.length
  | [] => Nat.le_refl _
  | x :: l => by
    rw [List.filterMap_cons]
    have := fm_len (f := f) (l := l)
    split <;> simp only [List.length_cons] <;> omega
theorem fm_all {f : Expr → Option Str} (hf : ∀ x p y, f (.Name x p) = some y → y = x) : ∀ {l : List (Str × Bd)} {ps : List Pos}, ps.length = l.length → (((l.zip ps).map fun q => Expr.Name q.1.1 q.2).filterMap f).length = ((l.zip ps).map fun q => Expr.Name q.1.1 q.2).length →
    ((l.zip ps).map fun q => Expr.Name q.1.1 q.2).filterMap f = l.map (·.1)
  | [], _, _, _ => rfl
  | _ :: _, [], h, _ => by cases h
  | p :: l, q :: ps, h, e => by
    simp only [List.zip_cons_cons, List.map_cons, List.filterMap_cons, List.length_cons] at e ⊢
    have le := fm_len (f := f) (l := (l.zip ps).map fun q => Expr.Name q.1.1 q.2)
    cases hx : f (.Name p.1 q) with
    | none => rw [hx] at e; dsimp only at e; omega
    | some y =>
      rw [hx] at e
      simp only [List.length_cons] at e
      rw [fm_all hf (by simpa using h) (by omega), hf _ _ _ hx]
theorem swapped_is {ts es : List Expr} {k k2 : Nat} {p p2 : Pos} {l : List (Str × Bd)} {ps : List Pos} (hl : ps.length = l.length) (ht : ts = (l.zip ps).map fun q => Expr.Name q.1.1 q.2) (ok : (es.all (foldedForSure 8) || !es.all (constantsAlone 8)) = true) :
    swappedStores [.Tuple ts k p] (.Tuple es k2 p2) env = pure none ∨ swappedStores [.Tuple ts k p] (.Tuple es k2 p2) env = pure (some (l.map (·.1))) := by
  unfold swappedStores
  dsimp only
  split
  · exact .inl rfl
  split
  · exact .inl rfl
  split
  · exact .inl rfl
  rename_i hne
  split
  · exact .inl rfl
  rename_i hnf
  split
  · rename_i hc
    rw [hc] at ok
    simp at ok
    simp only [Bool.not_eq_true, List.all_eq_false] at hnf
    obtain ⟨x, hx, q⟩ := hnf
    rw [ok x hx] at q; cases q
  · refine .inr ?_
    simp only [bne_iff_ne, ne_eq, Bool.or_eq_true, not_or, Classical.not_not] at hne
    rw [ht] at hne ⊢
    rw [fm_all (fun x p y hy => ?_) hl hne.1]
    dsimp only at hy
    by_cases hc : (env.kindOf x == some NameKind.local && p.line == (Option.map (fun x => x.pos.line) (List.map (fun q => Expr.Name q.fst.fst q.snd) (l.zip ps)).head?).getD 0) = true
    · rw [if_pos hc] at hy; exact (Option.some.inj hy).symm
    · rw [if_neg hc] at hy; cases hy
theorem fm_map {f : Expr → Option Str} (hf : ∀ x p, f (.Name x p) = some x) : ∀ {l : List (Str × Bd)} {ps : List Pos}, ps.length = l.length → ((l.zip ps).map fun q => Expr.Name q.1.1 q.2).filterMap f = l.map (·.1)
  | [], _, _ => rfl
  | _ :: _, [], h => by cases h
  | p :: l, q :: ps, h => by
    rw [List.zip_cons_cons, List.map_cons, List.filterMap_cons, hf, fm_map hf (by simpa using h)]
    rfl
theorem updL_find : ∀ {l : List (Str × Bd)} {ρ : Rho} {x : Str}, (l.map (·.1)).Nodup → find (updL ρ l) x = (l.lookup x).or (find ρ x)
  | [], _, _, _ => rfl
  | p :: l, ρ, x, h => by
    simp only [List.map_cons, List.nodup_cons] at h
    show find (updL (upd ρ p.1 p.2) l) x = _
    rw [updL_find h.2, List.lookup_cons]
    by_cases hx : x = p.1
    · subst hx
      have : l.lookup p.1 = none := by
        cases q : l.lookup p.1 with
        | none => rfl
        | some b => exact absurd (List.mem_map.mpr ⟨_, mem_of_lookup q, rfl⟩) h.1
      rw [this, find_self]; simp
    · have h2 : (x == p.1) = false := by simpa using hx
      rw [find_other hx, h2]
theorem updL_rev {l : List (Str × Bd)} {ρ : Rho} (h : (l.map (·.1)).Nodup) (x : Str) : find (updL ρ l.reverse) x = find (updL ρ l) x := by
  have h' : ((l.reverse).map (·.1)).Nodup := by rw [List.map_reverse]; exact (List.reverse_perm _).nodup_iff.mpr h
  rw [updL_find h, updL_find h']
  congr 1
  cases q : l.lookup x with
  | some b => exact lookup_mem h' (List.mem_reverse.mpr (mem_of_lookup q))
  | none =>
    cases q' : l.reverse.lookup x with
    | none => rfl
    | some b => rw [lookup_mem h (List.mem_reverse.mp (mem_of_lookup q'))] at q; cases q
theorem PendL.append {l' : List (Str × Bd)} {cs' : List Value} (q : PendL fx Wl ow h l' cs') : ∀ {l : List (Str × Bd)} {cs : List Value}, PendL fx Wl ow h l cs → PendL fx Wl ow h (l ++ l') (cs ++ cs')
  | [], cs, e => by cases (e : cs = []); exact q
  | _ :: _, _, .mk c r hp hr => .mk c _ hp (PendL.append q hr)
theorem PendL.reverse : ∀ {l : List (Str × Bd)} {cs : List Value}, PendL fx Wl ow h l cs → PendL fx Wl ow h l.reverse cs.reverse
  | [], cs, e => by cases (e : cs = []); rfl
  | p :: _, _, .mk c r hp hr => by
    rw [List.reverse_cons, List.reverse_cons]
    have z : PendL fx Wl ow h [p] [c] := ConsAt.mk c [] hp rfl
    exact PendL.append z hr.reverse
theorem x_tup2 (S : Snd fx r n) (R : Room A n) (F : FR fx env c Wl ow ρ s.heap) {ts es : List Expr} {k k2 : Nat} {p p2 pos : Pos} (h : (if tupOk ts es then (asgBs r c ρ ts es).map (updL ρ) else Option.none) = some ρ') :
    wpAny fx.M A (exec (.Assign [.Tuple ts k p] (.Tuple es k2 p2) pos) env) (SPost fx env c Wl ow ρ' .next s) X s := by
  refine iteY h fun ok h => mapE h fun l e1 => andE ok fun ok ok2 => andE ok fun ok0 ok1 => ?_
  have ok0 := decT ok0
  obtain ⟨⟨hk, ⟨ps, hps, hts⟩, hlen⟩, w⟩ := ps_sound (X := X) (pos := p2) S R F e1
  have nd : (l.map (·.1)).Nodup := by
    have : targetNames (.Tuple ts 0 default) = l.map (·.1) := by
      rw [hts]
      exact fm_map (fun x p => rfl) hps
    rw [← this]; exact ok0
  have tupE : ∀ Q : Value → Shared → Prop, (∀ ow₁ T its s₁, Stp env ow ow₁ s s₁ → FR fx env c Wl ow₁ ρ s₁.heap → PendL fx Wl ow₁ s₁.heap l its.toList → s₁.heap.get? T = some { cls := .type "tuple", data := .seq its 0 } → Q (.ref T) s₁) → wpAny fx.M A (eval (.Tuple es k2 p2) env) Q X s := fun Q q => by
    rw [arm_eval_Tuple]
    refine wpAny_bind (wpAny_standAt (wpAny_bind (wm w fun cvs s₁ h1 => ?_)))
    obtain ⟨ow₁, x1, gr, F1, pl⟩ := h1
    refine wpAny_newTuple (q ow₁ _ cvs.toArray _ (gr.stp (x1.trans .push)) (F1.keeps Kp.push) (PendL.more Kp.push (fun _ h => h) (fun _ _ h => .inl h) pl) (Heap.get?_push_size _ rfl)) ?_
    rw [pl.length, ← hlen]; exact lenOk_le ok1
  have stores : ∀ (l' : List (Str × Bd)) (ow₁ : List (Str × Addr)) (cs : List Value) (s₁ : Shared) (fs : List (Value → Sem Unit)), (∀ q ∈ l', q ∈ l) → (∀ x, find (updL ρ l') x = find (updL ρ l) x) → StoresL fx A env X l' fs →
      Stp env ow ow₁ s s₁ → FR fx env c Wl ow₁ ρ s₁.heap → PendL fx Wl ow₁ s₁.heap l' cs → wpAny fx.M A (assignInOrder fs cs) (fun _ s' => SPost fx env c Wl ow (updL ρ l) .next s .next s') X s₁ := fun l' ow₁ cs s₁ fs hm hf hst sp F1 pl =>
    wm (st_list F1 pl (fun q hq => hk q (hm q hq)) hst) fun _ s₂ h2 => (sp.trans h2.1).post (h2.2.sub fun x b e => (hf x).trans e)
  have hs : swapsWithSole [.Tuple ts k p] (.Tuple es k2 p2) pos.line env = pure false := swaps_other (env := env) (line := pos.line) (e := .Tuple es k2 p2) (t := .Tuple ts k p) rfl
  have len : ∀ {ow₁ : List (Str × Addr)} {s₁ : Shared} {its : Array Value}, PendL fx Wl ow₁ s₁.heap l its.toList → its.size = l.length := fun pl => (Array.length_toList).symm.trans pl.length
  have kpx : ∀ {h h' : Heap}, (∀ b o, b ≠ h.objs.size → h.get? b = some o → h'.get? b = some o) → Kp h h' := fun hx b o e => hx b o (new_ne e) e
  rcases swapped_is (env := env) (k := k) (k2 := k2) (p := p) (p2 := p2) hps hts ok2 with hw | hw
  · refine Assign_Tuple (tupE _ fun ow₁ T its s₁ sp F1 pl hT => ?_) hs hw
    have hn : ∀ t ∈ ts, ∃ x p, t = .Name x p := fun t ht => by
      rw [hts] at ht
      obtain ⟨q, _, rfl⟩ := List.mem_map.mp ht
      exact ⟨_, _, rfl⟩
    have hl : ts.length = l.length := by rw [hts, List.length_map, List.length_zip, hps, Nat.min_self]
    refine wpAny_assign_Tuple R.handled ⟨_, hT, rfl, 0, rfl⟩ (by rw [each_names hn, List.length_map, hl, len pl]) (by rw [each_names hn]; simp [List.findIdx?_eq_none_iff]) fun h' hx => ?_
    rw [each_names hn, List.map_map, hts, List.map_map]
    exact stores l ow₁ its.toList { s₁ with heap := h' } _ (fun _ h => h) (fun _ => rfl) (StoresL.names hps) (sp.trans (.of_ext (.heap (kpx hx)))) (F1.keeps (kpx hx)) (pl.more (kpx hx) (fun _ h => h) fun _ _ h => .inl h)
  · refine Assign_Tuple_swapped (tupE _ fun ow₁ T its s₁ sp F1 pl hT => ?_) hs hw
    rw [show (l.map (·.1)).length = its.size by rw [List.length_map, len pl]]
    refine wpAny_unpackItems_tuple R.handled ⟨_, hT, rfl, 0, rfl⟩ fun h' hx => ?_
    have := stores l.reverse ow₁ its.toList.reverse { s₁ with heap := h' } _ (fun q hq => List.mem_reverse.mp hq) (updL_rev nd) (StoresL.map (f := fun q => bindName env q.1) (fun q v s Q h => wpAny_bindName h) _) (sp.trans (.of_ext (.heap (kpx hx)))) (F1.keeps (kpx hx)) (pl.more (kpx hx) (fun _ h => h) fun _ _ h => .inl h).reverse
    rw [← List.map_reverse, List.map_map]
    exact this
end
end Mine
end
section
open PySem PySem.Calls PyProof.Rows PySem.W
set_option maxRecDepth 10000
namespace Mine
section
variable {fx : Fix} {r : Evs} {n : Nat} {A : Around} {env : Env} {c : Cx} {Wl Wl' W : Addr → Prop} {ow ow' : List (Str × Addr)} {ρ ρ' : Rho} {s s' : Shared} {X : Value → Shared → Prop} {h h' : Heap} {fl : Fl}
theorem swapped_no {ts : List Expr} {k : Nat} {p : Pos} {e : Expr} (h : isTuple e = false) : swappedStores [.Tuple ts k p] e env = pure none := by
  cases e with
  | Tuple => cases h
  | _ => rfl
theorem x_tup (S : Snd fx r n) (R : Room A n) (F : FR fx env c Wl ow ρ s.heap) {ts : List Expr} {k : Nat} {p pos : Pos} {e : Expr} (hne : isTuple e = false) (h : (pureE r c ρ e).bind (bindT c ρ (.Tuple ts k p)) = some ρ') :
    wpAny fx.M A (exec (.Assign [.Tuple ts k p] e pos) env) (SPost fx env c Wl ow ρ' .next s) X s :=
  bindE h fun v e1 h => Assign_Tuple (S.evV R F e1 fun cv s₁ x1 F1 h1 => wm (b_sound R F1 h h1) fun _ s₂ h2 => ((Stp.of_ext x1).trans h2.1).post h2.2) (swaps_other (env := env) (line := pos.line) (e := e) (t := .Tuple ts k p) rfl) (swapped_no hne)
theorem chainI {v : V} {t : Expr} {ts : List Expr} {ρ ρ' : Rho} {P : Expr → Prop} (h : chainT c v ρ (t :: ts) = some ρ') (k : ∀ x p, okN c x = true → chainT c v (upd ρ x (.val v)) ts = some ρ' → P (.Name x p)) : P t :=
  bindE h fun x ex h => iteY h fun hk h => nameE ex fun p => k x p hk h
theorem chain_sound {v : V} {cv : Value} : ∀ {ts : List Expr} {ρ ρ' : Rho} {s : Shared}, FR fx env c Wl ow ρ s.heap → RepV fx (Wf Wl ow) s.heap v cv → chainT c v ρ ts = some ρ' →
    wpAny fx.M A (assignAll cv ((assignEach ts env).map (·.2))) (fun _ s' => UPost fx env c Wl ow ρ' s s') X s
  | [], ρ, ρ', s, F, hv, h => someE h (wpAny_pure ⟨.refl s, F⟩)
  | [t], ρ, ρ', s, F, hv, h => chainI (P := fun t => wpAny fx.M A (assignAll cv ((assignEach [t] env).map (·.2))) (fun _ s' => UPost fx env c Wl ow ρ' s s') X s) h fun x p hk h => someE h (a_name F (okN_k hk) hv fun s₁ st F1 _ => ⟨st, F1⟩)
  | t :: t' :: ts, ρ, ρ', s, F, hv, h => chainI (P := fun t => wpAny fx.M A (assignAll cv ((assignEach (t :: t' :: ts) env).map (·.2))) (fun _ s' => UPost fx env c Wl ow ρ' s s') X s) h fun x p hk h => by
    have e2 : (assignEach (t' :: ts) env).map (·.2) = assign t' env :: (assignEach ts env).map (·.2) := chainI (P := fun t' => (assignEach (t' :: ts) env).map (·.2) = assign t' env :: (assignEach ts env).map (·.2)) h fun _ _ _ _ => rfl
    show wpAny fx.M A (assignAll cv (assign (.Name x p) env :: (assignEach (t' :: ts) env).map (·.2))) _ X s
    rw [e2]
    refine wpAny_bind (wpAny_holding (a_name F (okN_k hk) hv fun s₁ st F1 _ => ?_))
    have := chain_sound (ts := t' :: ts) F1 (hv.stp F st) h
    rw [e2] at this
    exact wm this fun _ s₂ h2 => ⟨st.trans h2.1, h2.2⟩
theorem swapped_many {t₁ t₂ e : Expr} {ts : List Expr} : swappedStores (t₁ :: t₂ :: ts) e env = pure none := by
  cases t₁ <;> rfl
theorem x_chain (S : Snd fx r n) (R : Room A n) (F : FR fx env c Wl ow ρ s.heap) {t₁ t₂ : Expr} {ts : List Expr} {pos : Pos} {e : Expr} (h : ((pureE r c ρ e).bind fun v => chainT c v ρ (t₁ :: t₂ :: ts)) = some ρ') :
    wpAny fx.M A (exec (.Assign (t₁ :: t₂ :: ts) e pos) env) (SPost fx env c Wl ow ρ' .next s) X s :=
  bindE h fun v e1 h => wpAny_Assign_stores (S.evV R F e1 fun cv s₁ x1 F1 h1 => wm (chain_sound F1 h1 h) fun _ s₂ h2 => ((Stp.of_ext x1).trans h2.1).post h2.2) rfl swapped_many
theorem own_one : ∀ {ow : List (Str × Addr)} {x y : Str} {d : Addr}, (ow.map (·.2)).Nodup → (x, d) ∈ ow → (y, d) ∈ ow → x = y
  | p :: ow, x, y, d, hn, h1, h2 => by
    simp only [List.map_cons, List.nodup_cons] at hn
    rcases List.mem_cons.mp h1 with e1 | h1 <;> rcases List.mem_cons.mp h2 with e2 | h2
    · rw [← e2] at e1; exact (Prod.mk.inj e1).1
    · exact absurd (List.mem_map.mpr ⟨_, h2, by rw [← e1]⟩) hn.1
    · exact absurd (List.mem_map.mpr ⟨_, h1, by rw [← e2]⟩) hn.1
    · exact own_one hn.2 h1 h2
theorem FR.ownPut (F : FR fx env c Wl ow ρ s.heap) {x : Str} {d : Addr} {v : V} {a : Addr} (hx : x ≠ objMark) (hd : (x, d) ∈ ow) (ha : (ownName x v, a) ∈ ow) (hat : At env s.heap x (.ref a))
    (k : ∀ b o, b ≠ d → b ≠ env.locals → s.heap.get? b = some o → h'.get? b = some o) (kl : ∀ m, s.heap.Ns env.locals m → h'.Ns env.locals m) (hl : ∃ o, h'.get? d = some o)
    (hnew : OwnAt fx (Wf Wl ow) ow x h' a v) : FR fx env c Wl ow (upd ρ x (.own v)) h' := by
  have hLw : Wl env.locals := F.ws _ (.inl rfl)
  have mv : Mv (Wf Wl ow) (Wf Wl ow) s.heap h' := fun b o hb e => ⟨hb, k b o (fun q => hb (.inr ⟨x, q ▸ hd⟩)) (fun q => hb (.inl (q ▸ hLw))) e⟩
  have hdw : ¬ Ws env d := fun q => F.owl _ hd (F.ws d q)
  have kc : ∀ y b o, (y, b) ∈ env.cells → s.heap.get? b = some o → h'.get? b = some o := fun y b o hm e => k b o (fun q => hdw (q ▸ .inr ⟨y, hm⟩)) (F.cloc y b hm) e
  have atk : ∀ y w, At env s.heap y w → At env h' y w := fun y w q => by
    cases q with
    | loc m h1 h2 h3 => exact .loc m h1 (kl m h2) h3
    | cell b h1 h2 h3 => obtain ⟨o, ho, q⟩ := h3; exact .cell b h1 h2 ⟨o, kc y b o (mem_of_lookup h2) ho, q⟩
  obtain ⟨m, hns⟩ := F.ns
  refine { F with gd := ⟨F.gd.b0, fun b o e => mv b o (F.gd.old b o e).1 (F.gd.old b o e).2, fun b q => ?_⟩, ns := ⟨m, kl m hns⟩, cells := fun y b hm => let ⟨w, o, ho, q⟩ := F.cells y b hm; ⟨w, o, kc y b o hm ho, q⟩, bind := fun y b e => ?_ }
  · by_cases hb : b = d
    · subst hb; exact hl
    · by_cases hbl : b = env.locals
      · subst hbl; obtain ⟨o, _, _, ho, _⟩ := kl m hns; exact ⟨o, ho⟩
      · obtain ⟨o, e⟩ := F.alloc b q; exact ⟨o, k b o hb hbl e⟩
  · by_cases hy : y = x
    · subst hy
      rw [find_self] at e
      exact Option.some.inj e ▸ .mk a ha (atk _ _ hat) hnew
    · rw [find_other hy] at e
      exact (F.bind y b e).move (atk y) (fun b' z hm hz => ⟨hm, fun o e => k b' o (fun q => (hz.elim (fun z => z ▸ hx.symm) fun z => z ▸ hy) (own_one F.owd (q ▸ hm) hd)) (fun q => F.owl _ hm (q ▸ hLw)) e⟩) mv
theorem Stp.ownPut {d : Addr} {x : Str} {tk : Nat} (hd : (x, d) ∈ ow) (k : ∀ b o, b ≠ d → b ≠ env.locals → s.heap.get? b = some o → h'.get? b = some o) (hl : ∃ o, h'.get? d = some o) (hL : ∃ o, h'.get? env.locals = some o) : Stp env ow ow s { s with heap := h', toks := tk } :=
  ⟨fun b o hb e => k b o (fun q => hb (.inr ⟨x, q ▸ hd⟩)) (fun q => hb (.inl (.inl q))) e, fun _ _ q => .inl q, fun b o e => by
    by_cases hb : b = d
    · subst hb; exact hl
    · by_cases hbl : b = env.locals
      · subst hbl; exact hL
      · exact ⟨o, k b o hb hbl e⟩, fun _ _ e => e, fun e => e, rfl, fun _ q => q⟩
end
end Mine
end
section
open PySem PySem.Calls PyProof.Rows PySem.W
set_option maxRecDepth 10000
namespace Mine
section
variable {fx : Fix} {r : Evs} {n : Nat} {A : Around} {env : Env} {c : Cx} {Wl Wl' W : Addr → Prop} {ow ow' : List (Str × Addr)} {ρ ρ' : Rho} {s s' : Shared} {X : Value → Shared → Prop} {h h' : Heap} {fl : Fl}
theorem at_ne {x : Str} {v : Value} {h h₁ : Heap} (F : FR fx env c Wl ow ρ h) (a : At env h₁ x v) : x ≠ objMark := fun q => by
  subst q
  have k : env.kindOf objMark = none := by unfold Env.kindOf; rw [F.names]; exact F.nodbg
  cases a with
  | loc m h1 _ _ => rw [k] at h1; cases h1
  | cell d h1 _ _ => rw [k] at h1; cases h1
theorem ownI {x : Str} {b : Bd} {l : List V} (hl : listB b = some l) : b = .own (.lst l) := by
  cases b with
  | own v => exact lstE (v := v) (Q := fun v => Bd.own v = _) hl rfl
  | val => exact no hl
theorem own_done (F : FR fx env c Wl ow ρ s.heap) {x : Str} {a : Addr} {l : List V} {its : Array Value} (ha : (x, a) ∈ ow) (hat : At env s.heap x (.ref a)) (sb : Heap.SameBut a s.heap h') {k' : Nat} {tk : Nat} (hn : h'.get? a = some { cls := .type "list", data := .seq its k' }) (hl : RepL fx (Wf Wl ow) s.heap l its.toList) :
    SPost fx env c Wl ow (upd ρ x (.own (.lst l))) .next s .next { s with heap := h', toks := tk } := by
  have kp : ∀ b o, b ≠ a → b ≠ env.locals → s.heap.get? b = some o → h'.get? b = some o := fun b o hb _ e => (sb.2 b hb).trans e
  have hla : env.locals ≠ a := fun q => F.owl _ ha (q ▸ F.ws _ (.inl rfl))
  obtain ⟨m, o, _, _, ho, _⟩ := F.ns
  exact (Stp.ownPut ha kp ⟨_, hn⟩ ⟨o, (sb.2 _ hla).trans ho⟩).post (F.ownPut (at_ne F hat) ha ha hat kp (fun m q => q.sameBut sb hla) ⟨_, hn⟩ (.mk its k' hn (hl.move fx (mv_same (.inr ⟨x, ha⟩) sb))))
theorem x_sub (S : Snd fx r n) (R : Room A n) (F : FR fx env c Wl ow ρ s.heap) {x : Str} {i e : Expr} {px ps pos : Pos} (h : subX r c ρ x i e = some ρ') :
    wpAny fx.M A (exec (.Assign [.Subscript (.Name x px) i ps] e pos) env) (SPost fx env c Wl ow ρ' .next s) X s := by
  refine bindE h fun v e1 h => bindP h fun _ k e2 h => bindE h fun b eb h => bindE h fun l el h => bindE h fun j ej h => mapE h fun l' ep => iteY ep fun hz ep => andE hz fun h0 hz => andE hz fun h1 hz => someE ep ?_
  have h0 := decT h0
  have h1 := decT h1
  rw [ownI (x := x) el] at eb
  refine wpAny_Assign_Subscript (S.evV R F e1 fun cv s₁ x1 F1 q1 => ?_) (swaps_other rfl)
  obtain ⟨a, ha, hat, its, kk, ho, hl⟩ := F1.bind x _ eb
  refine name_at F1 hat (S.ev R F1 e2 fun iv s₂ x2 F2 q2 => q2.intO ej fun tk => ?_)
  have z : its.size = l.length := its.length_toList.symm.trans hl.length
  have p63 := len_ok hz
  have ho2 := x2.keep _ _ ho
  exact ki_setAt (items := its) (n := kk) ho2 h0 (by omega) (by rw [z]; exact h1) ((own_done F2 ha (hat.keeps x2.keep) (Heap.SameBut.update ..) (its := its.setIfInBounds j.toNat cv) (Heap.get?_update_self _ ho2 rfl) (by rw [Array.toList_setIfInBounds]; exact (hl.keeps x2.keep).set _ (q1.keeps x2.keep))).ext (x1.trans x2))
theorem x_append (S : Snd fx r n) (R : Room A n) (F : FR fx env c Wl ow ρ s.heap) {x m : Str} {e : Expr} {px apos pos pos2 : Pos} (h : appX r c ρ x m apos pos e = some ρ') :
    wpAny fx.M A (exec (.Expr (.Call (.Attribute (.Name x px) m apos) [e] [] pos) pos2) env) (SPost fx env c Wl ow ρ' .next s) X s := by
  refine iteY h fun hz h => andE hz fun hm hz => andE hz fun hline hst => bindE h fun v e1 h => bindE h fun b eb h => bindE h fun l el h => iteY h fun hz h => someE h (eqE hm ?_)
  rw [ownI (x := x) el] at eb
  have ev := evL_of_one (pureI e1) (notT hst)
  refine wpAny_Expr (meth_any rfl hline (by simp) ev ?_) (by unfold interactive; rw [F.kind]; rfl) rfl
  obtain ⟨a, ha, hat, its, kk, ho, hl⟩ := F.bind x _ eb
  refine name_at F hat fun pl => getMethod_list_append ho rfl rfl (call_any S R F ev (fun s' _ => keep_plain ⟨_, .inl rfl⟩) fun cvs s₁ x1 F1 hcv => RepL.one' hcv fun cv hv => wpAny_list_append_plain (items := its) ⟨kk, x1.keep _ _ ho⟩ (fun h' ⟨k', hp⟩ sb => (own_done F1 ha (hat.keeps x1.keep) sb hp ?_).ext x1) ?_)
  · rw [Array.toList_push]
    exact (hl.keeps x1.keep).snoc hv
  · rw [its.length_toList.symm.trans hl.length]; exact lenOk_le hz
end
end Mine
end
section
open PySem PySem.Calls PyProof.Rows PySem.W
set_option maxRecDepth 10000
namespace Mine
section
variable {fx : Fix} {r : Evs} {n : Nat} {A : Around} {env : Env} {c : Cx} {Wl Wl' W : Addr → Prop} {ow ow' : List (Str × Addr)} {ρ ρ' : Rho} {s s' : Shared} {X : Value → Shared → Prop} {h h' : Heap} {fl : Fl}
theorem keys_put {a : Str} {hs : Int} {key v : Value} : ∀ {ns : List Str} {es : List DictEntry}, KeysAre ns es → ns.contains a = false → putL a hs key v es = es ++ [⟨hs, key, v⟩]
  | [], es, h, _ => by cases (h : es = []); rfl
  | m :: ns, es, ⟨e, r, er, ⟨t, hk⟩, h⟩, hc => er ▸ orN (List.contains_cons.symm.trans hc) fun h1 h2 => by
    have e1 : e.key.isStr a = false := by
      rw [hk]
      show (m == a) = false
      cases q : m == a with
      | false => rfl
      | true => rw [eq_of_beq q] at h1; simp at h1
    rw [putL, if_neg (by rw [e1]; exact Bool.false_ne_true), keys_put h h2]
    rfl
theorem keys_snoc {a : Str} {e : DictEntry} (hk : ∃ t, e.key = .str a t) : ∀ {ns : List Str} {es : List DictEntry}, KeysAre ns es → KeysAre (ns ++ [a]) (es ++ [e])
  | [], es, h => by cases (h : es = []); exact ⟨e, [], rfl, hk, rfl⟩
  | m :: ns, es, ⟨d, r, er, hd, h⟩ => er ▸ ⟨d, r ++ [e], rfl, hd, keys_snoc hk h⟩
theorem keys_len : ∀ {ns : List Str} {es : List DictEntry}, KeysAre ns es → es.length = ns.length
  | [], es, h => by cases (h : es = []); rfl
  | m :: ns, es, ⟨d, r, er, hd, h⟩ => er ▸ congrArg (· + 1) (keys_len h)
noncomputable def others (h : Heap) (d L : Addr) : List (Addr × Obj) := (List.range h.objs.size).filterMap fun b => if b = d ∨ b = L then none else (h.get? b).map fun o => (b, o)
theorem others_mem {d L b : Addr} {o : Obj} (e : h.get? b = some o) (h1 : b ≠ d) (h2 : b ≠ L) : (b, o) ∈ others h d L := by
  unfold others
  refine List.mem_filterMap.mpr ⟨b, List.mem_range.mpr (Heap.lt_size e), ?_⟩
  rw [if_neg (by intro q; rcases q with q | q; exact h1 q; exact h2 q), e]; rfl
theorem mem_others {d L : Addr} {p : Addr × Obj} (q : p ∈ others h d L) : h.get? p.1 = some p.2 ∧ p.1 ≠ d ∧ p.1 ≠ L := by
  unfold others at q
  obtain ⟨b, _, e⟩ := List.mem_filterMap.mp q
  split at e
  · cases e
  · rename_i hb
    obtain ⟨o, ho, rfl⟩ := Option.map_eq_some_iff.mp e
    exact ⟨ho, fun z => hb (.inl z), fun z => hb (.inr z)⟩
theorem objI {b : Bd} {p : List Str × List V} (hl : objB b = some p) : b = .own (.obj p.1 p.2) := by
  cases b with
  | own v => exact objE (v := v) (Q := fun v => Bd.own v = _) hl rfl
  | val => exact no hl
theorem x_attr (Z : Stat fx) (S : Snd fx r n) (R : Room A n) (F : FR fx env c Wl ow ρ s.heap) {x a : Str} {e : Expr} {px ps pos : Pos} (h : attX r c ρ x a e = some ρ') :
    wpAny fx.M A (exec (.Assign [.Attribute (.Name x px) a ps] e pos) env) (SPost fx env c Wl ow ρ' .next s) X s := by
  refine bindE h fun v e1 h => bindE h fun b eb h => bindE h fun p ep h => iteN h fun hz h => orN hz fun hns hz => orN hz fun hfl hlen => someE h ?_
  have hfl := notN hfl
  have hlen := of_decide_eq_false hlen
  rw [objI ep] at eb
  refine plainObj_wpAny_Assign_Attribute (S.evV R F e1 fun cv s₁ x1 F1 q1 => ?_) (swaps_other rfl)
  obtain ⟨o, ha, hat, d, es, k, hd, hne, ho, hdo, hk, hl⟩ := F1.bind x _ eb
  refine name_at F1 hat ?_
  obtain ⟨m, hm⟩ := F1.ns
  have hdL : d ≠ env.locals := fun q => F1.owl _ hd (q ▸ F1.ws _ (.inl rfl))
  have N : News {} env.locals s₁.heap ([] ++ (d, dictOf es k) :: others s₁.heap d env.locals) := fun p hp => by
    have em : ∀ b, ({} : Heap).get? b = none := fun b => by unfold Heap.get?; simp
    rcases List.mem_cons.mp hp with rfl | hp
    · exact ⟨hdo, hdL, em _⟩
    · obtain ⟨h1, h2, h3⟩ := mem_others hp; exact ⟨h1, h3, em _⟩
  have lk : (lookIn a (dictOf es k)).isSome = true := by rw [lookIn_dict, keys_none hk hns]; rfl
  refine set_plain F1.base.X (inst_of ho hdo) Z.setA (osa_dict (s := { s₁ with toks := s₁.toks + 1 }) (pre := []) (fr_any hm) N F1.base.X (inst_of ho hdo) rfl Z.over (Z.taker a hfl) Z.hd lk (fun _ h => (nomatch h)) (fun p hp => (mem_others hp).2.1) (putName_dict _ _ _ _ _ _) rfl ?_ fun h' F' N' => ?_)
  · rw [keys_put hk hns, List.length_append, keys_len hk]; simp; omega
  · rw [keys_put hk hns] at N'
    have hn := (N' _ List.mem_cons_self).1
    have kp : ∀ b o, b ≠ d → b ≠ env.locals → s₁.heap.get? b = some o → h'.get? b = some o := fun b o h1 h2 e => (N' _ (List.mem_cons_of_mem _ (others_mem e h1 h2))).1
    have hoL : o ≠ env.locals := fun q => F1.owl _ ha (q ▸ F1.ws _ (.inl rfl))
    have mv : Mv (Wf Wl ow) (Wf Wl ow) s₁.heap h' := fun b o hb e => ⟨hb, kp b o (fun q => hb (.inr ⟨x, q ▸ hd⟩)) (fun q => hb (.inl (q ▸ F1.ws _ (.inl rfl)))) e⟩
    refine ((Stp.of_ext x1).trans (Stp.ownPut hd kp ⟨_, hn⟩ (let ⟨o, _, _, ho, _⟩ := F'.ns; ⟨o, ho⟩))).post (F1.ownPut (at_ne F1 hat) hd ha hat kp (fun m' q => by rw [ns_unique q hm]; exact F'.ns) ⟨_, hn⟩ (.mk d _ _ hd hne (kp o _ hne hoL ho) hn (keys_snoc ⟨_, rfl⟩ hk) ?_))
    rw [List.map_append]
    exact (hl.move fx mv).snoc (RepV.move fx mv _ _ q1)
end
end Mine
end
section
open PySem PySem.Calls PyProof.Rows PySem.W
set_option maxRecDepth 10000
namespace Mine
section
variable {fx : Fix} {r : Evs} {n : Nat} {A : Around} {env : Env} {c : Cx} {Wl Wl' W : Addr → Prop} {ow ow' : List (Str × Addr)} {ρ ρ' : Rho} {s s' : Shared} {X : Value → Shared → Prop} {h h' : Heap} {fl : Fl}
theorem x_asg (Z : Stat fx) (S : Snd fx r n) (R : Room A n) (F : FR fx env c Wl ow ρ s.heap) {t e : Expr} {pos : Pos} (h : asgX r c ρ t e = some ρ') : wpAny fx.M A (exec (.Assign [t] e pos) env) (SPost fx env c Wl ow ρ' .next s) X s := by
  cases t with
  | Name => exact x_name S R F h
  | Tuple ts k p =>
    cases ht : isTuple e with
    | true =>
      revert h
      exact tupleI (P := fun e => asgX r c ρ (.Tuple ts k p) e = some ρ' → wpAny fx.M A (exec (.Assign [.Tuple ts k p] e pos) env) (SPost fx env c Wl ow ρ' .next s) X s) ht fun es k2 p2 h => x_tup2 S R F h
    | false =>
      refine x_tup S R F ht ?_
      clear F
      cases e with
      | Tuple => cases ht
      | _ => exact h
  | Subscript o i p => exact bindE h fun x ex h => nameE (Q := fun o => wpAny fx.M A (exec (.Assign [.Subscript o i p] e pos) env) (SPost fx env c Wl ow ρ' .next s) X s) ex fun q => x_sub S R F h
  | Attribute o a p => exact bindE h fun x ex h => nameE (Q := fun o => wpAny fx.M A (exec (.Assign [.Attribute o a p] e pos) env) (SPost fx env c Wl ow ρ' .next s) X s) ex fun q => x_attr Z S R F h
  | _ => exact no h
theorem attI {e : Expr} {p : Expr × Str × Pos} {P : Expr → Prop} (h : attO e = some p) (k : P (.Attribute p.1 p.2.1 p.2.2)) : P e := by
  cases e with
  | Attribute => cases h; exact k
  | _ => exact no h
theorem x_ex (S : Snd fx r n) (R : Room A n) (F : FR fx env c Wl ow ρ s.heap) {e : Expr} {pos : Pos} (h : exX r c ρ e = some ρ') : wpAny fx.M A (exec (.Expr e pos) env) (SPost fx env c Wl ow ρ' .next s) X s := by
  cases e with
  | Call f args kws p =>
    refine iteY h fun hk h => bindE h fun q eq h => bindE h fun x ex h => bindE h fun y ey h => ?_
    refine nilE (Q := fun kws => wpAny fx.M A (exec (.Expr (.Call f args kws p) pos) env) (SPost fx env c Wl ow ρ' .next s) X s) hk (oneE (Q := fun args => wpAny fx.M A (exec (.Expr (.Call f args [] p) pos) env) (SPost fx env c Wl ow ρ' .next s) X s) ey (attI (P := fun f => wpAny fx.M A (exec (.Expr (.Call f [y] [] p) pos) env) (SPost fx env c Wl ow ρ' .next s) X s) eq ?_))
    exact nameE (Q := fun o => wpAny fx.M A (exec (.Expr (.Call (.Attribute o q.2.1 q.2.2) [y] [] p) pos) env) (SPost fx env c Wl ow ρ' .next s) X s) ex fun px => x_append S R F h
  | _ => exact no h
@[elab_as_elim] theorem nxE {o : Option Rho} {fl : Fl} {ρ' : Rho} {Q : Fl → Rho → Prop} (h : o.map nx = some (fl, ρ')) (k : ∀ ρ, o = some ρ → Q .next ρ) : Q fl ρ' := mapP h k
theorem execS_sound (Z : Stat fx) (G : GenOk fx) (S : SndX fx r n) (R : Room A (n + 1)) (F : FR fx env c Wl ow ρ s.heap) {st : Stmt} (h : execS r c ρ st = some (fl, ρ')) : wpAny fx.M A (exec st env) (SPost fx env c Wl ow ρ' fl s) X s := by
  have R0 := R.le (Nat.le_succ n)
  cases st with
  | Pass => exact someP h (wpAny_Pass (.mk ow (.refl s) F rfl))
  | Break => exact someP h (wpAny_Break (.mk ow (.refl s) F rfl))
  | Return => exact x_return S.toSnd R0 F h
  | If => exact x_if S R0 F h
  | While t b o p => exact iteY h fun ho h => nilE (Q := fun o => wpAny fx.M A (exec (.While t b o p) env) (SPost fx env c Wl ow ρ' fl s) X s) ho (x_while S R0 F h)
  | For t i b o p => exact iteY h fun ho h => nilE (Q := fun o => wpAny fx.M A (exec (.For t i b o p) env) (SPost fx env c Wl ow ρ' fl s) X s) ho (x_for Z G S R F h)
  | Assign ts e p =>
    refine nxE h fun ρ₁ h => ?_
    cases ts with
    | nil => exact no h
    | cons t l =>
      cases l with
      | nil => exact x_asg Z S.toSnd R0 F h
      | cons t₂ l => exact x_chain S.toSnd R0 F h
  | Expr => exact nxE h fun ρ₁ h => x_ex S.toSnd R0 F h
  | _ => exact no h
theorem execL_sound (Z : Stat fx) (G : GenOk fx) (S : SndX fx r n) (R : Room A (n + 1)) : ∀ {body : List Stmt} {ρ : Rho} {ow : List (Str × Addr)} {s : Shared}, FR fx env c Wl ow ρ s.heap → execL r c ρ body = some (fl, ρ') → wpAny fx.M A (execs body env) (SPost fx env c Wl ow ρ' fl s) X s
  | [], ρ, ow, s, F, h => someP h (wpAny_execs_nil (.mk ow (.refl s) F rfl))
  | st :: rest, ρ, ow, s, F, h => bindP h fun f ρ₁ e1 h => wpAny_execs_cons (wm (execS_sound Z G S R F e1) fun f' s₁ h1 => by
    obtain ⟨ow₁, sp, F1, hf⟩ := h1
    cases f with
    | next => cases (hf : f' = _); exact wm (execL_sound Z G S R F1 h) fun f s₂ h2 => SPost.trans sp h2
    | brk => cases (hf : f' = _); exact someP h (.mk ow₁ sp F1 rfl)
    | cont => cases (hf : f' = _); exact someP h (.mk ow₁ sp F1 rfl)
    | ret v => obtain ⟨cv, hc⟩ := hf; exact someP h (.mk ow₁ sp F1 (.mk cv hc)))
end
end Mine
end
section
open PySem PySem.Calls PyProof.Rows PySem.W
set_option maxRecDepth 10000
namespace Mine
section
variable {fx : Fix} {r : Evs} {n : Nat} {A : Around} {W : Addr → Prop}
theorem enter_at {g : Fn} {fd : FuncData} {a : Addr} {cs : List Value} {s s₁ : Shared} (hs : fd.scope = g.scope) (ok : namesOk g = true) (hn : cs.length = g.names.length)
    (I : InCallC s (callEnvC fd s.heap.objs.size a).locals (bindL (callEnvC fd s.heap.objs.size a).kindOf (g.names.zip cs) fun _ => none) (callEnvC fd s.heap.objs.size a).cells (bindC (callEnvC fd s.heap.objs.size a).kindOf (g.names.zip cs) fun _ => none) s₁) {x : Str} {cv : Value}
    (e1 : (g.names.zip cs).lookup x = some cv) : At (callEnvC fd s.heap.objs.size a) s₁.heap x cv := by
  have ⟨k1, k2, k3, k4, k5, k6, k7⟩ := nok ok
  have hk : (callEnvC fd s.heap.objs.size a).kindOf = fun x => g.scope.names.lookup x := by funext x; show fd.scope.names.lookup x = _; rw [hs]
  have hc : (callEnvC fd s.heap.objs.size a).cells = cellsFrom (s.heap.objs.size + 1) g.scope.names [] := by show cellsFrom _ fd.scope.names [] = _; rw [hs]
  have nd : ((callEnvC fd s.heap.objs.size a).cells.map (·.1)).Nodup := by rw [hc]; exact cells_nodup _ _ _ k1 List.nodup_nil (fun _ h => (nomatch h))
  have nz : ((g.names.zip cs).map (·.1)).Nodup := by rw [zip_names hn]; exact k2
  have hx : x ∈ g.names := (List.of_mem_zip (mem_of_lookup e1)).1
  rcases k4 x hx with q | q
  · exact .loc _ (by rw [hk]; exact q) I.toInCall.ns (bindL_at _ _ _ _ nz e1 (by rw [hk]; exact q))
  · obtain ⟨a', ha⟩ := cells_some g.scope.names (s.heap.objs.size + 1) [] x (mem_of_lookup q)
    rw [← hc] at ha
    have hcl := lookup_mem nd ha
    refine .cell a' (by rw [hk]; exact q) hcl ?_
    have := I.cell x a' hcl
    rwa [bindC_at _ _ _ _ nz e1 (by rw [hk]; simp only [q]; decide)] at this
theorem call_init (S : SndX fx r n) (R : Room A (n + 1)) {fa : Addr} {g : Fn} (f : FnAt fx fa g) (hnm : g.names = [nm "self", nm "ws"]) {s : Shared} {u : V} {cv : Value} {ns : List Str} {vs : List V} {ρ' : Rho} (B : Gd fx W s.heap) (hv : RepV fx W s.heap u cv)
    (e : r.X (fnCx g) [(nm "self", .own (.obj [] [])), (nm "ws", .val u)] g.body = some (.next, ρ')) (eo : find ρ' (nm "self") = some (.own (.obj ns vs))) {RR : Result → Shared → Prop}
    (hR : ∀ s', Ext s s' → RepV fx W s'.heap (.obj ns vs) (.ref (s.heap.objs.size + 1)) → RR (.ok (.ret .none)) s') :
    codeAny fx.M A (.call (.ref fa) ⟨[.ref (s.heap.objs.size + 1), cv], []⟩) RR { s with heap := (s.heap.push emptyDict).push (instObj fx.C s.heap.objs.size) } := by
  obtain ⟨⟨o, fd, h1, h2, h3, h4, h5, h6, h7, h8, h9⟩, hk, ok⟩ := f
  generalize hx : s.heap.objs.size + 1 = x at hR ⊢
  generalize hd : s.heap.objs.size = d at hx hR ⊢
  generalize hH : (s.heap.push emptyDict).push (instObj fx.C d) = H at hR ⊢
  have kp : Kp s.heap H := fun b o e => hH ▸ Heap.get?_push_of_some _ (Heap.get?_push_of_some _ e)
  have sz : (s.heap.push emptyDict).objs.size = x := by rw [Heap.size_push, hd, hx]
  have hxo : H.get? x = some (instObj fx.C d) := by rw [← hH, ← sz]; exact Heap.get?_push_size _ rfl
  have hdo : H.get? d = some (dictOf [] 0) := by
    rw [← hH]; refine Heap.get?_push_of_some _ ?_
    rw [← hd]; exact Heap.get?_push_size _ rfl
  have ux : s.heap.get? x = none := by
    cases e : s.heap.get? x with
    | none => rfl
    | some o => have := Heap.lt_size e; rw [hd, ← hx] at this; exact absurd this (Nat.not_lt.mpr (Nat.le_succ _))
  have ud : s.heap.get? d = none := by
    cases e : s.heap.get? d with
    | none => rfl
    | some o => have := Heap.lt_size e; rw [hd] at this; exact absurd this (Nat.lt_irrefl _)
  have hne : x ≠ d := by rw [← hx]; exact Nat.succ_ne_self _
  have BH : Gd fx W H := B.keeps kp
  have nWx : ¬ W x := B.fresh ux
  have nWd : ¬ W d := B.fresh ud
  have hl : RepL fx W H [.obj [] [], u] [.ref x, cv] := .mk _ _ (.mk x d [] 0 nWx nWd hne hxo hdo rfl rfl) (.one (hv.keeps kp))
  have ⟨k1, k2, k3, k4, k5, k6, k7⟩ := nok ok
  have hn' : ([.ref x, cv] : List Value).length = g.names.length := by rw [hnm]; rfl
  refine codeAny_call_cells (s := { s with heap := H }) (o := o) (fd := fd) (body := g.body) (binds := g.names.zip [.ref x, cv]) ?_ (BH.base.X fa o h1) h2 BH.base.nolimit (h9 _ BH.base.X) h3 (h8 _ hn') h5 ?_ ?_ (by rw [h4]; exact k5) (by rw [h4]; exact k6) (by rw [h4]; exact k7)
  · have := R.depth
    have : recursionLimit = 1000 := rfl
    omega
  · intro y hy
    rw [h4]
    have hy' : y.1 ∈ g.names := (List.of_mem_zip hy).1
    rcases k4 _ hy' with q | q
    · exact .inl q
    · refine .inr ⟨q, ?_⟩
      obtain ⟨b, hb⟩ := cells_some g.scope.names (H.objs.size + 1) [] y.1 (mem_of_lookup q)
      rw [lookup_mem (cells_nodup g.scope.names (H.objs.size + 1) [] k1 List.nodup_nil (fun _ h => (nomatch h))) hb]; rfl
  · intro s₁ I
    have F0 := enter_fr (s := { s with heap := H }) h4 h6 h7 ok BH hl hn' I
    have keep := I.toInCall.keep
    have wsx : ∀ b o, H.get? b = some o → ¬ Ws (callEnvC fd H.objs.size fa) b := fun b o e q => by
      have h0 := Heap.lt_size e
      rcases q with q | ⟨y, q⟩
      · exact Nat.lt_irrefl _ (show H.objs.size < H.objs.size from (show b = H.objs.size from q) ▸ h0)
      · exact Nat.lt_irrefl _ (Nat.lt_trans h0 (I.above y b q))
    have a1 : At (callEnvC fd H.objs.size fa) s₁.heap (nm "self") (.ref x) := enter_at (s := { s with heap := H }) h4 ok hn' I (by
      rw [hnm]
      show List.lookup (nm "self") [(nm "self", Value.ref x), (nm "ws", cv)] = some (.ref x)
      rw [List.lookup_cons]; simp)
    have a2 : At (callEnvC fd H.objs.size fa) s₁.heap (nm "ws") cv := enter_at (s := { s with heap := H }) h4 ok hn' I (by
      rw [hnm]
      show List.lookup (nm "ws") [(nm "self", Value.ref x), (nm "ws", cv)] = some cv
      rw [List.lookup_cons, show (nm "ws" == nm "self") = false by decide, List.lookup_cons]; simp)
    have smk : nm "self" ≠ objMark := by decide
    have notW : ∀ b o, ¬ W b → s.heap.get? b = some o → ¬ Wf (WlOf W (callEnvC fd H.objs.size fa)) [(nm "self", d), (objMark, x)] b := fun b o hb e q => by
      rcases q with (q | q) | ⟨y, q⟩
      · exact hb q
      · exact wsx b o (kp b o e) q
      · rcases List.mem_cons.mp q with q | q
        · exact gone ud ((Prod.mk.inj q).2 ▸ e)
        · exact gone ux ((Prod.mk.inj (List.mem_singleton.mp q)).2 ▸ e)
    have F : FR fx (callEnvC fd H.objs.size fa) (fnCx g) (WlOf W (callEnvC fd H.objs.size fa)) [(nm "self", d), (objMark, x)] [(nm "self", .own (.obj [] [])), (nm "ws", .val u)] s₁.heap := by
      refine { F0 with gd := ⟨B.b0, fun b o e => ⟨notW b o (B.old b o e).1 (B.old b o e).2, keep _ _ (kp _ _ (B.old b o e).2)⟩, fun b q => ?_⟩, owd := ?_, owl := fun p hp => ?_, bind := fun y b e => ?_ }
      · rcases q with q | ⟨y, q⟩
        · exact F0.alloc b (.inl q)
        · rcases List.mem_cons.mp q with q | q
          · rw [(Prod.mk.inj q).2]; exact ⟨_, keep _ _ hdo⟩
          · rw [(Prod.mk.inj (List.mem_singleton.mp q)).2]; exact ⟨_, keep _ _ hxo⟩
      · simp [hne.symm]
      · rcases List.mem_cons.mp hp with rfl | hp
        · intro q
          rcases q with q | q
          · exact nWd q
          · exact wsx d _ hdo q
        · rw [List.mem_singleton.mp hp]
          intro q
          rcases q with q | q
          · exact nWx q
          · exact wsx x _ hxo q
      · unfold find at e
        rw [List.lookup_cons] at e
        cases q : y == nm "self" with
        | true =>
          rw [q] at e; cases e
          have q := eq_of_beq q; subst q
          exact .mk x (List.mem_cons_of_mem _ (List.mem_singleton.mpr rfl)) a1 (.mk d [] 0 List.mem_cons_self hne (keep _ _ hxo) (keep _ _ hdo) rfl rfl)
        | false =>
          rw [q] at e
          dsimp only at e
          rw [List.lookup_cons] at e
          cases q2 : y == nm "ws" with
          | true =>
            rw [q2] at e; cases e
            have q2 := eq_of_beq q2; subst q2
            exact .mk cv a2 (hv.move fx fun b o hb e => ⟨notW b o hb e, keep _ _ (kp b o e)⟩)
          | false => rw [q2] at e; cases e
    have R' : Room (A.deeper (callEnvC fd H.objs.size fa)) n := by
      refine ⟨?_, ?_, R.handled⟩
      · have := R.depth; show A.depth + 1 + n ≤ 900; omega
      · have := R.units; show A.units + 3 + 20 * n ≤ 9000; omega
    refine wm (S.X R' F e _) fun f s₂ h => ?_
    obtain ⟨ow', st, F', hf⟩ := h
    cases (hf : f = _)
    obtain ⟨h', tk, rfl, _⟩ := I.done
    refine hR _ ⟨fun b o e => ?_, st.gens, st.bare, st.os⟩ ?_
    · refine st.keep b o (fun q => ?_) (keep _ _ (kp b o e))
      rcases q with q | ⟨y, q⟩
      · exact wsx b o (kp b o e) q
      · rcases List.mem_cons.mp q with q | q
        · exact gone ud ((Prod.mk.inj q).2 ▸ e)
        · exact gone ux ((Prod.mk.inj (List.mem_singleton.mp q)).2 ▸ e)
    · obtain ⟨a, hm, hat, d', es, k, q1, q2, q3, q4, q5, q6⟩ := F'.bind _ _ eo
      have hax : a = x := by
        rcases List.mem_cons.mp (st.mark a hm) with q | q
        · exact absurd (Prod.mk.inj q).1.symm smk
        · exact (Prod.mk.inj (List.mem_singleton.mp q)).2
      subst hax
      exact .mk a d' es k nWx (fun q => F'.owl _ q1 (.inl q)) q2 q3 q4 q5 (q6.anti fun b hb => .inl (.inl hb))
end
end Mine
end
section
open PySem PySem.Calls PyProof.Rows PySem.W
set_option maxRecDepth 10000
namespace Mine
section
variable {fx : Fix} {r : Evs} {n : Nat} {A : Around} {W : Addr → Prop}
theorem under_room {i : String} {a : Args} (R : Room A (n + 1)) (hw : (Code.builtin i a).weight ≤ 1) (hu : (Code.builtin i a).cUnits ≤ 7) : ∀ k, k ≤ n → Room (A.under (.builtin i a)) k := fun k hk => by
  refine ⟨?_, ?_, R.handled⟩
  · have := R.depth; show A.depth + (Code.builtin i a).weight + k ≤ 900; omega
  · have := R.units; show A.units + (Code.builtin i a).cUnits + 20 * k ≤ 9000; omega
theorem tc_weight (C : Addr) (l : List Value) (kw : List (Str × Value)) : (Code.builtin "type.__call__" ⟨.ref C :: l, kw⟩).weight = 1 := rfl
theorem tc_units (a : Args) : (Code.builtin "type.__call__" a).cUnits = 1 := by kernel_rfl
theorem call_make (Z : Stat fx) (S : SndX fx r n) (R : Room A (n + 2)) {fa : Addr} {g : Fn} (f : FnAt fx fa g) (hi : findIn fx.K (.ref fx.C) "__init__" = some (some (.ref fa))) (ht : isFn fx.K (.ref fa) = true) (hnm : g.names = [nm "self", nm "ws"])
    {s : Shared} {u : V} {cv : Value} {ns : List Str} {vs : List V} {ρ' : Rho} (B : Gd fx W s.heap) (hv : RepV fx W s.heap u cv)
    (e : r.X (fnCx g) [(nm "self", .own (.obj [] [])), (nm "ws", .val u)] g.body = some (.next, ρ')) (eo : find ρ' (nm "self") = some (.own (.obj ns vs))) {X : Value → Shared → Prop} :
    wpAny fx.M A (call (.ref fx.C) [cv]) (VPost fx W s (.obj ns vs)) X s := by
  refine wpAny_call ?_
  have key := fun {RR : Result → Shared → Prop} (A' : Around) (R' : Room A' (n + 1)) hR => call_init (A := A') (RR := RR) S R' f hnm B hv e eo hR
  obtain ⟨hh, gg, dd, tt, os⟩ := s
  refine make_core (makes_of B.base.X Z.makes) (looks_findIn B.base.X hi) (fun self => bind_fn B.base.X self (beq_iff_eq.mp ht)) (.inl rfl) ?_
  exact key _ (under_room (n := n + 1) R (by rw [tc_weight]; decide) (by rw [tc_units]; decide) _ (Nat.le_refl _)) fun s' x hr => ⟨rfl, x, hr⟩
theorem run_parts {g : Fn} {vs : List V} {v : V} {P : Prop} (h : runF r g vs = some v) (k : ∀ ρ', vs.length = g.names.length → r.X (fnCx g) (g.names.zip (vs.map Bd.val)) g.body = some (.ret v, ρ') → P) : P :=
  iteY h fun hn h => bindP h fun fl ρ' e1 h => k ρ' (eq_of_beq hn).symm (by
    cases fl with
    | ret w => exact e1.trans (someE (Q := fun v => some (Fl.ret w, ρ') = some (Fl.ret v, ρ')) h rfl)
    | _ => exact no h)
theorem make_parts {vs : List V} {v : V} {P : Prop} (h : ((fx.G.meths.lookup (nm "__init__")).bind fun g => (oneO vs).bind fun a => makV r a g) = some v) (k : ∀ g a ρ' ns us, fx.G.meths.lookup (nm "__init__") = some g → vs = [a] → g.names = [nm "self", nm "ws"] → r.X (fnCx g) [(nm "self", .own (.obj [] [])), (nm "ws", .val a)] g.body = some (.next, ρ') → find ρ' (nm "self") = some (.own (.obj ns us)) → v = .obj ns us → P) : P :=
  bindE h fun g hg h => bindE h fun a ea h => iteY h fun hn h => bindP h fun fl ρ' e1 h => iteY h fun hf h => bindE h fun b eb h => mapI h fun p ep h => k g a ρ' p.1 p.2 hg (oneE (Q := fun vs => vs = [a]) ea rfl) (eq_of_beq hn) (by
    cases fl with
    | next => exact e1
    | _ => cases hf) (objI ep ▸ eb) h
theorem step_SndX (Z : Stat fx) (G : GenOk fx) (S : SndX fx r n) : SndX fx (stepR fx.G r) (n + 2) where
  toSnd :=
    have z := stepR_Snd Z G S
    ⟨fun R F h => z.E (R.le (Nat.le_succ _)) F h, fun R F h => z.T (R.le (Nat.le_succ _)) F h, fun R F h hk => z.U (R.le (Nat.le_succ _)) F h hk⟩
  X := fun R F h X => execL_sound Z G S (R.le (Nat.le_succ _)) F h
  F0 := fun h => iteB h (fun hf _ => ⟨_, eq_of_beq hf ▸ Z.cls, Z.ckeep⟩) fun _ h => bindE h fun g hg _ => let ⟨a, h1, h2⟩ := Z.fns _ _ hg; ⟨_, h1, h2.keep⟩
  F := fun {A W f vs cs v s fv} R B hl h hf X => iteB h (fun hw h => make_parts h fun g a ρ' ns us hg hv hn e1 e2 hr => by
      rw [eq_of_beq hw, Z.cls] at hf; cases hf
      obtain ⟨_, fa, h1, h2, h3⟩ := Z.meths _ _ hg
      subst hv hr
      exact hl.one' fun cv hv => call_make Z S R h3 h1 h2 hn B hv e1 e2) fun _ h => bindE h fun g hg h => run_parts h fun ρ' hn e1 => by
      obtain ⟨a, h1, h2⟩ := Z.fns _ _ hg
      rw [h1] at hf; cases hf
      exact call_fn S (R.le (Nat.le_succ _)) h2 B hl hn e1
  M0 := fun h => bindE h fun g hg _ => let ⟨h0, a, h1, h2, h3⟩ := Z.meths _ _ hg; ⟨h0, a, h1, h2, h3.keep⟩
  M := fun {A W m u vs cu cs v s fa} R B hu hl h hf X => bindE h fun g hg h => run_parts h fun ρ' hn e1 => by
    obtain ⟨h0, a, h1, h2, h3⟩ := Z.meths _ _ hg
    rw [h1] at hf; cases hf
    exact call_fn S (R.le (Nat.le_succ _)) h3 B (vs := u :: vs) (cs := cu :: cs) (.mk _ _ hu hl) hn e1
theorem zero_SndX (n : Nat) : SndX fx (lvl fx.G 0) n where
  E := fun _ _ h => by cases h
  T := fun _ _ h => by cases h
  U := fun _ _ h => by cases h
  X := fun _ _ h => by cases h
  F0 := fun h => by cases h
  F := fun _ _ _ h => by cases h
  M0 := fun h => by cases h
  M := fun _ _ _ _ h => by cases h
theorem lvl_SndX (Z : Stat fx) (G : GenOk fx) : ∀ n, SndX fx (lvl fx.G n) (2 * n)
  | 0 => zero_SndX _
  | n + 1 => step_SndX Z G (lvl_SndX Z G n)
end
end Mine
end
section
open PySem PySem.Calls PyProof.Rows PySem.W
set_option maxRecDepth 10000
namespace Mine
section
variable {M : Model} {A : Around} {R : GenEnd} {Y : Protocol} {n : Nat} {s₀ : Shared} {c : Code} {fs : List Frame} {s : Shared} {env : Env}
  {K : Flow → Sem Fin} {H : Value → Sem Fin} {gd : Bool → Bool} {lv : List Value → List Value}
theorem seg_If {t : Expr} {body orelse : List Stmt} {pos : Pos}
    (h : wpAny M (A.over c fs) (isTrue t env (eval t env)) (fun b s' => Seg M A R Y n s₀ c ((if b = true then execs body env else execs orelse env).wrap K H gd lv) fs s') (fun x s' => Seg M A R Y n s₀ c (H x) fs s') s) :
    Seg M A R Y n s₀ c ((exec (.If t body orelse pos) env).wrap K H gd lv) fs s := by
  show Seg M A R Y n s₀ c (.at pos fun _ => ((isTrue t env (eval t env) >>= fun b => if b = true then execs body env else execs orelse env)).wrap K H gd lv) fs s
  refine seg_at ?_
  rw [Sem.bind_eq_wrap', Sem.wrap_wrap]
  exact seg_wrap h
theorem seg_stmt {st : Stmt} (h : wpAny M (A.over c fs) (exec st env) (fun f s' => Seg M A R Y n s₀ c (K f) fs s') (fun x s' => Seg M A R Y n s₀ c (H x) fs s') s) :
    Seg M A R Y n s₀ c ((exec st env).wrap K H gd lv) fs s := seg_wrap h
noncomputable def ownBack (env : Env) (r : Result) : Sem Flow := (match r with | .ok f => (.pure f : Sem Flow) | .error e => .raise e).onRaise fun (x : Value) => do
        if (← field x 1) == Value.none then unsupported "frame.own-activation:exception-without-traceback"
        setFlight x env.frame
theorem seg_For {target iter : Expr} {body orelse : List Stmt} {pos : Pos} (hs : ∀ x, foldedSetIterable iter env x = pure x)
    (h : wpAny M (A.over c fs) (eval iter env) (fun x s₁ => wpAny M (A.over c fs) (pyIter x) (fun it s₂ =>
      ∀ p, Seg M A R Y n s₀ (.forLoop target it body orelse env) (M.den (.forLoop target it body orelse env)) (.ret (fun r => (ownBack env r).wrap K H gd lv) none (gd false) (lv []) c p [] :: fs) s₂) (fun x s' => Seg M A R Y n s₀ c (H x) fs s') s₁) (fun x s' => Seg M A R Y n s₀ c (H x) fs s') s) :
    Seg M A R Y n s₀ c ((exec (.For target iter body orelse pos) env).wrap K H gd lv) fs s := by
  show Seg M A R Y n s₀ c (.at pos fun _ => ((eval iter env >>= fun y => foldedSetIterable iter env y >>= fun x => standAt iter.pos >>= fun _ => holding [x] (pyIter x) >>= fun it => runOwn (.forLoop target it body orelse env) env)).wrap K H gd lv) fs s
  refine seg_at ?_
  rw [Sem.bind_eq_wrap', Sem.wrap_wrap]
  refine seg_wrap (wpAny_mono h (fun x s₁ h1 => ?_) fun _ _ h => h)
  rw [hs, Sem.bind_eq_wrap', Sem.wrap_wrap]
  refine seg_wrap (wpAny_pure ?_)
  rw [Sem.bind_eq_wrap', Sem.wrap_wrap]
  refine seg_wrap (wpAny_standAt ?_)
  rw [Sem.bind_eq_wrap', Sem.wrap_wrap]
  refine seg_wrap (wpAny_holding (wpAny_mono h1 (fun it s₂ h2 => ?_) fun _ _ h => h))
  exact seg_call h2
end
section
variable {prog : Program} {w : World} {A : Around} {R : GenEnd} {Y : Protocol} {n : Nat} {s₀ : Shared} {fs : List Frame} {s : Shared} {env : Env}
noncomputable def loopBack (env : Env) (e : Value) : Sem Fin := (do noteFrame e env; theTreesLotGoes e : Sem Unit).wrap (fun _ => .raise e) .raise id id
noncomputable def turnK (target : Expr) (it : Value) (body orelse : List Stmt) (env : Env) (f : Flow) : Sem Fin := match f with
  | .next | .cont => .pure (.again (.forLoop target it body orelse env))
  | .brk => .pure (.done .next)
  | .ret v => .pure (.done (.ret v))
theorem seg_forLoop {target : Expr} {it : Value} {body orelse : List Stmt}
    (h : ∀ X, wpAny (model prog w) (A.over (.forLoop target it body orelse env) fs) (pyNext it) (fun o s₁ => match o with
      | none => Seg (model prog w) A R Y n s₀ (.block orelse env) ((model prog w).den (.block orelse env)) fs s₁
      | some v => ∀ X, wpAny (model prog w) (A.over (.forLoop target it body orelse env) fs) (letOwnedTupleGo target it v) (fun _ s₂ => ∀ X, wpAny (model prog w) (A.over (.forLoop target it body orelse env) fs) (assign target env v) (fun _ s₃ =>
          Seg (model prog w) A R Y n s₀ (.forLoop target it body orelse env) ((execs body env).wrap (turnK target it body orelse env) (loopBack env) id id) fs s₃) X s₂) X s₁) X s) :
    Seg (model prog w) A R Y n s₀ (.forLoop target it body orelse env) ((model prog w).den (.forLoop target it body orelse env)) fs s := by
  show Seg _ A R Y n s₀ _ ((forTurn target it body orelse env).onRaise (fun x => do noteFrame x env; theTreesLotGoes x)) fs s
  unfold forTurn
  rw [Sem.onRaise_eq_wrap, Sem.bind_eq_wrap', Sem.wrap_wrap]
  refine seg_wrap (wpAny_standAt ?_)
  rw [Sem.bind_eq_wrap', Sem.wrap_wrap]
  refine seg_wrap (wpAny_onRaise (wpAny_mono (h fun _ _ => False) (fun o s₁ h1 => ?_) fun _ _ f => f.elim))
  cases o with
  | none => exact seg_again rfl h1
  | some v =>
    dsimp only
    rw [Sem.bind_eq_wrap', Sem.wrap_wrap]
    refine seg_wrap (wpAny_mono (h1 _) (fun _ s₂ h2 => ?_) fun _ _ h => h)
    rw [Sem.bind_eq_wrap', Sem.wrap_wrap]
    refine seg_wrap (wpAny_mono (h2 _) (fun _ s₃ h3 => ?_) fun _ _ h => h)
    rw [Sem.bind_eq_wrap', Sem.wrap_wrap]
    rw [Sem.wrap_congr (execs body env) _ _ (K' := turnK target it body orelse env) (H' := loopBack env) (fun f => by cases f <;> rfl)
      (fun e => by show (do noteFrame e env; theTreesLotGoes e : Sem Unit).bind (fun _ => .raise e) = _; rw [Sem.bind_eq_wrap]; rfl)]
    exact h3
theorem seg_block {stmts : List Stmt} (h : Seg (model prog w) A R Y n s₀ (.block stmts env) ((execs stmts env).wrap (fun f => .pure (.done f)) (loopBack env) id id) fs s) :
    Seg (model prog w) A R Y n s₀ (.block stmts env) ((model prog w).den (.block stmts env)) fs s := by
  show Seg _ A R Y n s₀ _ ((execs stmts env).onRaise (fun x => do noteFrame x env; theTreesLotGoes x) >>= fun f => pure (Fin.done f)) fs s
  rw [Sem.onRaise_eq_wrap, Sem.bind_eq_wrap', Sem.wrap_wrap]
  rw [Sem.wrap_congr (execs stmts env) _ _ (K' := fun f => (.pure (.done f) : Sem Fin)) (H' := loopBack env) (fun f => by rfl)
      (fun e => by rw [Sem.bind_eq_wrap, Sem.wrap_wrap]; rfl)]
  exact h
end
end Mine
end
section
open PySem PySem.Calls PyProof.Rows PySem.W
set_option maxRecDepth 10000
namespace Mine
section
variable {prog : Program} {w : World} {A : Around} {E : Value → Shared → Prop} {s : Shared}
theorem next_gen {a : Addr} {g n : Nat} {gs : GenState} {P : Nat → Shared → Shared → Prop} {Y : Protocol} {Q : Option Value → Shared → Prop} (hh : A.handled = none) (hl : s.heap.NoLimit) (hroom : A.depth < recursionLimit)
    (hg : s.heap.IsGen a g) (hgs : s.gens[g]? = some gs)
    (hgo : gs.Goes (model prog w) A.in1 (fun n s₀ r s₁ => r = .ok (.ret .none) ∧ P n s₀ s₁) Y n (.send .none) (s.setGen g .running))
    (hY : ∀ v s₁ gs', gs'.bare = true → Y (n - 1) (s.setGen g .running) v s₁ (fun r' s'' => match n with
        | 0 => False
        | m + 1 => gs'.Goes (model prog w) A.in1 (fun n s₀ r s₁ => r = .ok (.ret .none) ∧ P n s₀ s₁) Y m r' s'') → Q (some v) (s₁.setGen g gs'))
    (hP : ∀ s₁, P n (s.setGen g .running) s₁ → ∀ h', (∀ b o, s₁.heap.get? b = some o → h'.get? b = some o) → Q none { s₁.setGen g .finished with heap := h' }) :
    wpAny (model prog w) A (pyNext (.ref a)) Q E s := by
  unfold pyNext
  refine wpAny_bind (wpAny_attempt (wpAny_callSpecial?_slot (name := Str.ofString "__next__") hg.typeIs slot_gen_next (wpAny_call_entry slot_gen_next hg.typeIs entry_gen_next ?_ (args_gen_next _))))
  show wpAny _ A.in1 (Builtin.Generator.genWake (.ref a) (.send .none)) _ _ s
  unfold Builtin.Generator.genWake
  refine wpAny_bind (wpAny_holding (wpAny_genNumber hg (wpAny_bind (wpAny_genState hgs ?_))))
  cases gs with
  | running => exact hgo.elim
  | finished => exact hgo.elim
  | _ =>
    refine wpAny_bind (wpAny_roomToWake hl hroom ?_)
    show wpAny _ A.in1 (.resume g (.send .none) [] _) _ _ s
    refine wpAny_resumeQ hgs hgo (fun x s₁ hx => ?_) (fun v s₁ gs' hb hv => ?_)
    · obtain ⟨rfl, hp⟩ := hx
      show wpAny _ A.in1 (newExc (.type "StopIteration") [] >>= _) _ _ _
      refine wpAny_bind ?_
      simp only [newExc, newTuple]
      refine wpAny_bind (wpAny_newObj_type ?_ (by size_fits))
      refine wpAny_bind (m := firstArgMember _ _) (wpAny_of_eq (a := Value.none) (by first | rfl | (simp only [firstArgMember]; rfl)) ?_)
      refine wpAny_newObj_type ?_ (by size_fits)
      simp only [raiseNew]
      refine wpAny_bind (wpAny_bind (wpAny_handled ?_))
      rw [show A.in1.handled = none from hh]
      refine wpAny_throw (wpAny_bind (wpAny_isInstance (T := "StopIteration") (b := true) ⟨_, Heap.get?_push_size _ rfl, rfl⟩ isSubtype_stop ?_))
      exact wpAny_pure (hP s₁ hp _ fun b o hb => Heap.get?_push_of_some _ (Heap.get?_push_of_some _ hb))
    · exact wpAny_pure ⟨v, rfl, wpAny_pure (hY v s₁ gs' hb hv)⟩
end
end Mine
end
section
open PySem PySem.Calls PyProof.Rows PySem.W
set_option maxRecDepth 10000
namespace Mine
noncomputable def cmpM (r : Evs) (c : Cx) (ρ : Rho) (l : Expr) (ops : List CmpOp) (es : List Expr) : Option Bool := if lastMarks ops es || ops.length != es.length then Option.none else (r.E c ρ l).bind fun p => chainE r c ρ p.2 ops es
noncomputable def stepM (r : Evs) (c : Cx) (ρ : Rho) : Expr → Option (Bool × V)
  | .Constant k _ _ => (constV k).map f0
  | .Name x _ => (find ρ x).bind bdE
  | .BinOp a op b _ => (binE r c ρ a op b).map f0
  | .Tuple es _ _ => tupE r c ρ es
  | .Compare l ops es _ => (cmpM r c ρ l ops es).map fun b => f0 (.bool b)
  | _ => Option.none
noncomputable def mini : Nat → Evs
  | 0 => ⟨fun _ _ _ => Option.none, fun _ _ _ => Option.none, fun _ _ => Option.none, fun _ _ _ => Option.none⟩
  | n + 1 => ⟨stepM (mini n), fun _ _ _ => Option.none, fun _ _ => Option.none, fun _ _ _ => Option.none⟩
section
variable {fx : Fix} {r : Evs} {n : Nat} {A : Around} {env : Env} {c : Cx} {Wl : Addr → Prop} {ow : List (Str × Addr)} {ρ : Rho} {s : Shared} {X : Value → Shared → Prop}
theorem cmpMI {l : Expr} {ops : List CmpOp} {es : List Expr} {b : Bool} {P : Prop} (e : cmpM r c ρ l ops es = some b) (k : lastMarks ops es = false → ops.length = es.length → ∀ t v, r.E c ρ l = some (t, v) → chainE r c ρ v ops es = some b → P) : P :=
  iteN e fun h e => orN h fun h1 h2 => bindP e fun t v e1 e => k h1 (bne_eq_false_iff_eq.mp h2) t v e1 e
theorem e_cmpM (S : Snd fx r n) (R : Room A n) (F : FR fx env c Wl ow ρ s.heap) {l : Expr} {ops : List CmpOp} {es : List Expr} {pos : Pos} {b : Bool} (e : cmpM r c ρ l ops es = some b) : wpAny fx.M A (eval (.Compare l ops es pos) env) (EPost fx Wl ow s false (.bool b)) X s := by
  refine cmpMI e fun hm hl t v e1 e2 => ?_
  rw [arm_eval_Compare, markedEach_of_false _ _ _ hm]
  exact wpAny_bind (S.ev R F e1 fun cv s₁ x1 F1 h1 => wm (e_chain S R hl F1 h1 e2) fun cv s₂ h2 => ⟨x1.trans h2.1, h2.2⟩)
theorem t_cmpM (S : Snd fx r n) (R : Room A n) (F : FR fx env c Wl ow ρ s.heap) {l : Expr} {ops : List CmpOp} {es : List Expr} {pos : Pos} {b : Bool} {whole : Sem Value} (e : cmpM r c ρ l ops es = some b) : wpAny fx.M A (isTrue (.Compare l ops es pos) env whole) (TPost b s) X s := by
  refine cmpMI e fun hm hl t v e1 e2 => ?_
  rw [arm_isTrue_Compare, markedEach_of_false _ _ _ hm]
  exact wpAny_bind (S.ev R F e1 fun cv s₁ x1 F1 h1 => wm (t_chain S R hl F1 h1 e2) fun cv s₂ h2 => ⟨h2.1, x1.trans h2.2⟩)
theorem mini_Snd : ∀ (n k : Nat), Snd fx (mini n) k
  | 0, _ => ⟨fun _ _ h => no h, fun _ _ h => no h, fun _ _ h => no h⟩
  | n + 1, k => by
    have S := mini_Snd n k
    have E : ∀ {A : Around} {env : Env} {c : Cx} {Wl : Addr → Prop} {ow : List (Str × Addr)} {ρ : Rho} {e : Expr} {t : Bool} {v : V} {s : Shared}, Room A k → FR fx env c Wl ow ρ s.heap → stepM (mini n) c ρ e = some (t, v) →
        ∀ X, wpAny fx.M A (eval e env) (EPost fx Wl ow s t v) X s := by
      intro A env c Wl ow ρ e t v s R F h X
      cases e with
      | Constant => exact f0E h fun w e => e_const e
      | Name => exact e_name F h
      | BinOp => exact f0E h fun w e => e_bin S R F e
      | Tuple => exact e_Tuple S R F h
      | Compare => exact mapP h fun b e => e_cmpM S R F e
      | _ => exact no h
    refine ⟨fun R F h X => E R F h X, fun {A env c Wl ow ρ e t b s} R F h X => ?_, fun _ _ h => no h⟩
    have hE := E R F h X
    have h : stepM (mini n) c ρ e = some (t, .bool b) := h
    cases e with
    | Compare => exact bI h fun e => t_cmpM S R F e
    | Constant => exact t_plain hE rfl
    | Name => exact t_plain hE rfl
    | BinOp => exact t_plain hE rfl
    | Tuple => exact t_plain hE rfl
    | _ => exact no h
end
end Mine
end
section
open PySem PySem.Calls PyProof.Rows PySem.W
set_option maxRecDepth 10000
namespace Mine
noncomputable def gNames : List (Str × NameKind) := [(nm "addr", .local), (nm "pos", .local), (nm "escape", .local), (nm "ch", .local), (nm "enumerate", .globalImplicit)]
noncomputable def gCx : Cx := ⟨gNames, []⟩
noncomputable def bsl : Const := .str "\\"
noncomputable def yieldS (a b : Expr) (p1 p2 p3 : Pos) : Stmt := .Expr (.Yield (some (.Tuple [a, b] 0 p1)) p2) p3
noncomputable def gTurn (q : Nat → Pos) : List Stmt :=
  [.If (.Name (nm "escape") (q 0))
    [yieldS (.Name (nm "pos") (q 1)) (.BinOp (.Constant bsl 0 (q 2)) .Add (.Name (nm "ch") (q 3)) (q 4)) (q 5) (q 6) (q 7),
      .Assign [.Name (nm "escape") (q 8)] (.Constant (.bool false) 0 (q 9)) (q 10)]
    [.If (.Compare (.Name (nm "ch") (q 11)) [.Eq] [.Constant bsl 0 (q 12)] (q 13))
      [.Assign [.Name (nm "escape") (q 14)] (.Constant (.bool true) 0 (q 15)) (q 16)]
      [yieldS (.Name (nm "pos") (q 17)) (.Name (nm "ch") (q 18)) (q 19) (q 20) (q 21)] (q 22)] (q 23)]
noncomputable def gTarget (q : Nat → Pos) : Expr := .Tuple [.Name (nm "pos") (q 24), .Name (nm "ch") (q 25)] 0 (q 26)
noncomputable def gLast (q : Nat → Pos) : Stmt := .If (.Name (nm "escape") (q 27)) [yieldS (.Name (nm "pos") (q 28)) (.Constant bsl 0 (q 29)) (q 30) (q 31) (q 32)] [] (q 33)
noncomputable def gBody (q : Nat → Pos) : List Stmt :=
  [.Assign [.Name (nm "pos") (q 34)] (.Constant (.int 0) 0 (q 35)) (q 36), .Assign [.Name (nm "escape") (q 37)] (.Constant (.bool false) 0 (q 38)) (q 39),
    .For (gTarget q) (.Call (.Name (nm "enumerate") (q 40)) [.Name (nm "addr") (q 41)] [] (q 42)) (gTurn q) [] (q 43), gLast q]
structure GFn (fx : Fix) (a : Addr) : Prop where
  ex : ∃ o fd q, fx.K.lookup a = some o ∧ o.data = .func fd ∧ fd.body = .stmts (gBody q) ∧ fd.scope.names = gNames ∧ fd.scope.kind = .function ∧ fd.scope.isCoroutine = false ∧ fd.scope.isGenerator = true ∧ fd.closure = [] ∧ fd.globals = mainGlobals ∧ fd.builtins = builtinsNs ∧
    (∀ v : Value, bindArgs fd ⟨[v], []⟩ = pure [(nm "addr", v)]) ∧ (∀ h, fx.K.In h → h.CodeRec fd.code fd.qualname)
  keep : keepIn fx.K (.ref a) = true
noncomputable def gRho (l : List Nat) (p : Int) (esc : Bool) (ch : Option (List Nat)) : Rho :=
  [(nm "escape", .val (.bool esc)), (nm "pos", .val (.int p)), (nm "addr", .val (.str l))] ++ (match ch with | some x => [(nm "ch", .val (.str x))] | none => [])
end Mine
end
section
open PySem PySem.Calls PyProof.Rows PySem.W
set_option maxRecDepth 10000
namespace Mine
section
variable {fx : Fix} {A : Around} {genv : Env} {Wl : Addr → Prop} {ρ : Rho} {s s' : Shared}
noncomputable def Free (ρ : Rho) : Prop := ∀ x b, find ρ x = some b → ∃ v, b = .val v ∧ ∀ c W h W' h', RepV fx W h v c → RepV fx W' h' v c
theorem free_v {v : V} (h : (∃ b, v = .bool b) ∨ (∃ i, v = .int i) ∨ ∃ l, v = .str l) : ∀ c W h W' h', RepV fx W h v c → RepV fx W' h' v c := by
  intro c W h₁ W' h' q
  rcases h with ⟨b, rfl⟩ | ⟨i, rfl⟩ | ⟨l, rfl⟩ <;> exact q
theorem gRho_free {l : List Nat} {p : Int} {esc : Bool} {ch : Option (List Nat)} : Free (fx := fx) (gRho l p esc ch) := by
  intro x b h
  have hm := mem_of_lookup h
  unfold gRho at hm
  rcases List.mem_append.mp hm with hm | hm
  · simp only [List.mem_cons, List.not_mem_nil, or_false, Prod.mk.injEq] at hm
    rcases hm with ⟨_, rfl⟩ | ⟨_, rfl⟩ | ⟨_, rfl⟩
    · exact ⟨_, rfl, free_v (.inl ⟨_, rfl⟩)⟩
    · exact ⟨_, rfl, free_v (.inr (.inl ⟨_, rfl⟩))⟩
    · exact ⟨_, rfl, free_v (.inr (.inr ⟨_, rfl⟩))⟩
  · cases ch with
    | none => cases hm
    | some y =>
      simp only [List.mem_cons, List.not_mem_nil, or_false, Prod.mk.injEq] at hm
      obtain ⟨_, rfl⟩ := hm
      exact ⟨_, rfl, free_v (.inr (.inr ⟨_, rfl⟩))⟩
theorem g_back {c : Cx} (F : FR fx genv c Wl [] ρ s.heap) (fr : Free (fx := fx) ρ) (hc : genv.cells = []) (k : ∀ b o, Wl b → s.heap.get? b = some o → s'.heap.get? b = some o) (k0 : ∀ b o, fx.h0.get? b = some o → s'.heap.get? b = some o) : FR fx genv c Wl [] ρ s'.heap := by
  have hL : Wl genv.locals := F.ws _ (.inl rfl)
  refine { F with gd := ⟨F.gd.b0, fun b o e => ⟨(F.gd.old b o e).1, k0 b o e⟩, fun b q => ?_⟩, ns := ?_, cells := fun x a hm => ?_, bind := fun x b e => ?_ }
  · rcases q with q | ⟨_, q⟩
    · obtain ⟨o, e⟩ := F.alloc b (.inl q); exact ⟨o, k b o q e⟩
    · cases q
  · obtain ⟨m, o, es, ep, ho, q⟩ := F.ns; exact ⟨m, o, es, ep, k _ _ hL ho, q⟩
  · rw [hc] at hm; cases hm
  · obtain ⟨v, rfl, hv⟩ := fr x b e
    obtain ⟨cv, h1, h2⟩ := F.bind x _ e
    refine ⟨cv, ?_, hv _ _ _ _ _ h2⟩
    cases h1 with
    | loc m q1 q2 q3 => obtain ⟨o, es, ep, ho, q⟩ := q2; exact .loc m q1 ⟨o, es, ep, k _ _ hL ho, q⟩ q3
    | cell a q1 q2 q3 => rw [hc] at q2; cases q2
end
end Mine
end
section
open PySem PySem.Calls PyProof.Rows PySem.W
set_option maxRecDepth 10000
namespace Mine
noncomputable def gW (L e it : Addr) (b : Addr) : Prop := b = L ∨ b = e ∨ b = it
structure GStep (L e it : Addr) (s s' : Shared) : Prop where
  keep : ∀ b o, ¬ gW L e it b → s.heap.get? b = some o → s'.heap.get? b = some o
  live : ∀ b, gW L e it b → ∃ o, s'.heap.get? b = some o
  gens : ∀ (i : Nat) (x : GenState), s.gens[i]? = some x → s'.gens[i]? = some x
  bare : AllBare s.gens → AllBare s'.gens
  os : s'.os = s.os
noncomputable def gY (fx : Fix) (its : List V) (L e it : Addr) : Protocol := fun n s₀ v s₁ kap => ∃ item, its[its.length - 1 - n]? = some item ∧ GStep L e it s₀ s₁ ∧
  (∀ U : Addr → Prop, (∀ b, U b → ∃ o, s₀.heap.get? b = some o) → RepV fx (fun b => U b ∨ gW L e it b) s₁.heap item v) ∧
  ∀ s'', (∀ b o, gW L e it b → s₁.heap.get? b = some o → s''.heap.get? b = some o) → (∀ b o, fx.h0.get? b = some o → s''.heap.get? b = some o) → kap (.send .none) s''
section
variable {fx : Fix} {A : Around} {genv : Env} {ρ : Rho} {s s' s₀ : Shared} {its : List V} {L e it : Addr}
structure GInv (fx : Fix) (genv : Env) (L e it : Addr) (l : List Nat) (tx : Tok) (i : Nat) (ρ : Rho) (s : Shared) : Prop where
  fr : FR fx genv gCx (gW L e it) [] ρ s.heap
  loc : genv.locals = L
  cells : genv.cells = []
  en : ∃ old, IsEnum s.heap e it i old
  itr : s.heap.IsStrIter it (strIterType ⟨l.toArray⟩) ⟨l.toArray⟩ tx i
  ne : e ≠ it ∧ e ≠ L ∧ it ≠ L
theorem g_draws (hh : A.handled = none) (it : Addr) (x : Str) (t : Tok) : Draws fx.prog fx.w A it [it] x.cps.size (fun i v => ∃ c u, x.cps[i]? = some c ∧ v = .str ⟨#[c]⟩ u) (fun i h => h.IsStrIter it (strIterType x) x t i) := by
  unfold strIterType
  split
  · exact Draws.strAscii hh it x t
  · exact Draws.strWide hh it x t
theorem GStep.trans {s₁ s₂ s₃ : Shared} (x : GStep L e it s₁ s₂) (y : GStep L e it s₂ s₃) : GStep L e it s₁ s₃ :=
  ⟨fun b o h q => y.keep b o h (x.keep b o h q), y.live, fun i g q => y.gens i g (x.gens i g q), fun q => y.bare (x.bare q), y.os.trans x.os⟩
theorem g_next (hh : A.handled = none) {l : List Nat} {tx : Tok} {i : Nat} {c : Nat} (I : GInv fx genv L e it l tx i ρ s) (fr : Free (fx := fx) ρ) (hc : l[i]? = some c) {ts : List Expr} {k : Nat} {p : Pos} (X₁ X₂ : Value → Shared → Prop) :
    wpAny fx.M A (pyNext (.ref e)) (fun o s₁ => ∃ T, o = some (.ref T) ∧ wpAny fx.M A (letOwnedTupleGo (.Tuple ts k p) (.ref e) (.ref T)) (fun _ s₂ => GInv fx genv L e it l tx (i + 1) ρ s₂ ∧ GStep L e it s s₂ ∧
      RepV fx (gW L e it) s₂.heap (.tup [.int i, .str [c]]) (.ref T)) X₂ s₁) X₁ s := by
  obtain ⟨F, hL, hcl, ⟨old, he⟩, hit, n1, n2, n3⟩ := I
  have hlt : i < (⟨l.toArray⟩ : Str).cps.size := by
    have := (List.getElem?_eq_some_iff.mp hc).1
    simpa using this
  have hsz := Heap.lt_size he
  have hnew : s.heap.objs.size ≠ e := fun z => by rw [z] at hsz; exact Nat.lt_irrefl _ hsz
  have hnit : s.heap.objs.size ≠ it := fun z => by obtain ⟨o, ho, _⟩ := hit; rw [← z] at ho; exact Nat.lt_irrefl _ (Heap.lt_size ho)
  have hLo : ∃ o, s.heap.get? L = some o := F.alloc L (.inl (.inl rfl))
  have hnL : s.heap.objs.size ≠ L := fun z => by obtain ⟨o, ho⟩ := hLo; rw [← z] at ho; exact Nat.lt_irrefl _ (Heap.lt_size ho)
  refine wpAny_pyNext_enum_itemD (g_draws (A := A.in1) (fx := fx) hh it ⟨l.toArray⟩ tx) he hit hlt n1 (by simpa using n1) fun x h' tk hx k1 k2 k3 k4 k5 => ⟨_, rfl, ?_⟩
  obtain ⟨c', u, hc', rfl⟩ := hx
  have hcc : c' = c := by
    have : l[i]? = some c' := by simpa using hc'
    rw [hc] at this; cases this; rfl
  subst hcc
  refine wpAny_letOwnedTupleGo_enum k1 fun h'' k6 k7 => ?_
  have kk : ∀ b o, b ≠ e → b ≠ it → s.heap.get? b = some o → h''.get? b = some o := fun b o q1 q2 q => (k7.2 b q1).trans (k5 b o q1 q2 q)
  obtain ⟨oi, hoi, roi⟩ := k2
  have hit' : h''.get? it = some oi := (k7.2 it n1.symm).trans hoi
  have lv : ∀ b, gW L e it b → ∃ o, h''.get? b = some o := fun b q => by
    rcases q with q | q | q
    · subst q; obtain ⟨o, ho⟩ := hLo; exact ⟨o, kk b o n2.symm n3.symm ho⟩
    · subst q; exact ⟨_, k6⟩
    · subst q; exact ⟨oi, hit'⟩
  refine ⟨⟨?_, hL, hcl, ⟨_, by exact_mod_cast k6⟩, ⟨oi, hit', roi⟩, n1, n2, n3⟩, ⟨fun b o hb q => kk b o (fun z => hb (.inr (.inl z))) (fun z => hb (.inr (.inr z))) q, lv, fun _ _ q => q, fun q => q, rfl⟩, ?_⟩
  · refine F.chg (P := fun b => b = e ∨ b = it) (fun b q => ⟨?_, fun z => ?_⟩) (fun b o hb q => kk b o (fun z => hb (.inl z)) (fun z => hb (.inr z)) q) (fun b q => q) (fun b q => .inl q) lv
    · exact .inr q
    · rcases z with z | ⟨y, z⟩
      · rw [hL] at z
        rcases q with q | q
        · exact n2 (q.symm.trans z)
        · exact n3 (q.symm.trans z)
      · rw [hcl] at z; cases z
  · exact .mk _ _ 0 (fun q => q.elim hnL fun q => q.elim hnew hnit) ((k7.2 _ hnew).trans k3) (.mk _ _ int_v (.one (.mk u)))
end
end Mine
end
section
open PySem PySem.Calls PyProof.Rows PySem.W
set_option maxRecDepth 10000
namespace Mine
section
variable {prog : Program} {w : World} {A : Around} {E : Value → Shared → Prop} {s : Shared}
noncomputable def EndAt (prog : Program) (w : World) (A : Around) (ty : String) : Prop := ∀ {it : Addr} {x : Str} {t : Tok} {i : Nat} {s : Shared} {Q : Value → Shared → Prop} {E : Value → Shared → Prop}, s.heap.IsStrIter it ty x t i → x.cps[i]? = none →
  (∀ h' e, Heap.ExtBut it s.heap h' → (∃ o, h'.get? it = some o) → (∃ o, h'.get? e = some o ∧ o.cls = .type "StopIteration") → E (.ref e) { s with heap := h' }) → wpAny (model prog w) A (Builtin.SmallTypes.nextOf (.ref it)) Q E s
theorem end_ascii (hh : A.handled = none) : EndAt prog w A "str_ascii_iterator" := by
  intro it x t i s Q E hit hx hE
  obtain ⟨o, ho, hc, hd⟩ := id hit
  unfold Builtin.SmallTypes.nextOf
  refine wpAny_bind (wpAny_callSpecial?_slot (name := Str.ofString "__next__") hit.typeIs PySem.F.slot_str_ascii_iterator_next (wpAny_call_entry PySem.F.slot_str_ascii_iterator_next hit.typeIs PySem.F.entry_str_ascii_iterator_next ?_ (PySem.F.args_str_ascii_iterator_next_1 _)))
  show wpAny _ _ (field (.ref it) 0 >>= _) _ _ s
  refine wpAny_bind (wpAny_field ho hd (x := .str x t) rfl ?_)
  show wpAny _ _ (field (.ref it) 1 >>= _) _ _ s
  refine wpAny_bind (wpAny_field ho hd (x := .int i 0) rfl ?_)
  simp only [Int.toNat_natCast, hx]
  refine wpAny_bind (wpAny_rule (wpAny_bind (wpAny_setField ho hd (by simp) (wpAny_bind (wpAny_letGo ?_)))))
  show wpAny _ _ (newExc (.type "StopIteration") [] >>= _) _ _ _
  refine wpAny_bind ?_
  simp only [newExc, newTuple]
  refine wpAny_bind (wpAny_newObj_type ?_ (by size_fits))
  refine wpAny_bind (m := firstArgMember _ _) (wpAny_of_eq (a := Value.none) (by first | rfl | (simp only [firstArgMember]; rfl)) ?_)
  refine wpAny_newObj_type ?_ (by size_fits)
  simp only [raiseNew]
  refine wpAny_bind (wpAny_handled ?_)
  first | rw [show A.in1.handled = none from hh] | rw [hh]
  refine wpAny_bind (wpAny_pure (wpAny_throw ?_))
  refine hE _ _ (((Heap.SameBut.update ..).extBut.push _).push _) ⟨_, Heap.get?_push_of_some _ (Heap.get?_push_of_some _ (Heap.get?_update_self _ ho ?_))⟩ ⟨_, Heap.get?_push_size _ rfl, rfl⟩
  obtain ⟨oc, od, oda, osl⟩ := o
  dsimp only at hd
  subst hd
  rfl
theorem end_wide (hh : A.handled = none) : EndAt prog w A "str_iterator" := by
  intro it x t i s Q E hit hx hE
  obtain ⟨o, ho, hc, hd⟩ := id hit
  unfold Builtin.SmallTypes.nextOf
  refine wpAny_bind (wpAny_callSpecial?_slot (name := Str.ofString "__next__") hit.typeIs PySem.F.slot_str_iterator_next (wpAny_call_entry PySem.F.slot_str_iterator_next hit.typeIs PySem.F.entry_str_iterator_next ?_ (PySem.F.args_str_iterator_next_1 _)))
  show wpAny _ _ (field (.ref it) 0 >>= _) _ _ s
  refine wpAny_bind (wpAny_field ho hd (x := .str x t) rfl ?_)
  show wpAny _ _ (field (.ref it) 1 >>= _) _ _ s
  refine wpAny_bind (wpAny_field ho hd (x := .int i 0) rfl ?_)
  simp only [Int.toNat_natCast, hx]
  refine wpAny_bind (wpAny_rule (wpAny_bind (wpAny_setField ho hd (by simp) (wpAny_bind (wpAny_letGo ?_)))))
  show wpAny _ _ (newExc (.type "StopIteration") [] >>= _) _ _ _
  refine wpAny_bind ?_
  simp only [newExc, newTuple]
  refine wpAny_bind (wpAny_newObj_type ?_ (by size_fits))
  refine wpAny_bind (m := firstArgMember _ _) (wpAny_of_eq (a := Value.none) (by first | rfl | (simp only [firstArgMember]; rfl)) ?_)
  refine wpAny_newObj_type ?_ (by size_fits)
  simp only [raiseNew]
  refine wpAny_bind (wpAny_handled ?_)
  first | rw [show A.in1.handled = none from hh] | rw [hh]
  refine wpAny_bind (wpAny_pure (wpAny_throw ?_))
  refine hE _ _ (((Heap.SameBut.update ..).extBut.push _).push _) ⟨_, Heap.get?_push_of_some _ (Heap.get?_push_of_some _ (Heap.get?_update_self _ ho ?_))⟩ ⟨_, Heap.get?_push_size _ rfl, rfl⟩
  obtain ⟨oc, od, oda, osl⟩ := o
  dsimp only at hd
  subst hd
  rfl
theorem end_any (hh : A.handled = none) (x : Str) : EndAt prog w A (strIterType x) := by
  unfold strIterType
  split
  · exact end_ascii hh
  · exact end_wide hh
end
section
variable {fx : Fix} {A : Around} {genv : Env} {ρ : Rho} {s s' s₀ : Shared} {its : List V} {L e it : Addr}
theorem g_done (hh : A.handled = none) {l : List Nat} {tx : Tok} (I : GInv fx genv L e it l tx l.length ρ s) (X : Value → Shared → Prop) :
    wpAny fx.M A (pyNext (.ref e)) (fun o s₁ => o = none ∧ FR fx genv gCx (gW L e it) [] ρ s₁.heap ∧ GStep L e it s s₁) X s := by
  obtain ⟨F, hL, hcl, ⟨old, he⟩, hit, n1, n2, n3⟩ := I
  have hT : s.TypeIs (.ref e) "enumerate" := ⟨_, he, rfl⟩
  unfold pyNext
  refine wpAny_bind (wpAny_attempt (wpAny_callSpecial?_slot (name := Str.ofString "__next__") hT PySem.F.slot_enumerate_next (wpAny_call_entry PySem.F.slot_enumerate_next hT PySem.F.entry_enumerate_next ?_ (PySem.F.args_enumerate_next_1 _))))
  show wpAny _ _ (field (.ref e) 2 >>= _) _ _ _
  refine wpAny_bind (wpAny_field he rfl (x := .ref it) rfl ?_)
  refine wpAny_bind (end_any (A := A.in1) hh ⟨l.toArray⟩ hit (by simp) fun h' x he' hl' hx' => ?_)
  obtain ⟨o, ho, hc⟩ := hx'
  refine wpAny_bind (wpAny_isInstance (T := "StopIteration") (b := true) ⟨o, ho, hc⟩ isSubtype_stop ?_)
  have lv : ∀ b, gW L e it b → ∃ o, h'.get? b = some o := fun b q => by
    by_cases hb : b = it
    · subst hb; exact hl'
    · obtain ⟨o, ho⟩ := F.alloc b (.inl q); exact ⟨o, he' b o hb ho⟩
  refine wpAny_pure ⟨rfl, ?_, ⟨fun b o hb q => he' b o (fun z => hb (.inr (.inr z))) q, lv, fun _ _ q => q, fun q => q, rfl⟩⟩
  refine F.chg (P := (· = it)) (fun b q => ⟨.inr (.inr q), fun z => ?_⟩) (fun b o hb q => he' b o hb q) (fun b q => q) (fun b q => .inl q) lv
  subst q
  rcases z with z | ⟨y, z⟩
  · exact n3 (z.trans hL)
  · rw [hcl] at z; cases z
end
end Mine
end
section
open PySem PySem.Calls PyProof.Rows PySem.W
set_option maxRecDepth 10000
namespace Mine
section
variable {fx : Fix} {A : Around} {genv : Env} {c : Cx} {Wl : Addr → Prop} {ρ : Rho} {s s' : Shared} {X : Value → Shared → Prop}
theorem g_tuple {n : Nat} (R : Room A n) (F : FR fx genv c Wl [] ρ s.heap) {a b : Expr} {p : Pos} {k : Nat} {m : Nat} {i : Int} {l : List Nat} (h : evL (mini m) c ρ [a, b] = some (false, [.int i, .str l])) :
    wpAny fx.M A (eval (.Tuple [a, b] k p) genv) (fun v s' => Ext s s' ∧ ∃ T, v = .ref T ∧ s.heap.get? T = none ∧ ∀ U : Addr → Prop, ¬ U T → RepV fx U s'.heap (.tup [.int i, .str l]) v) X s := by
  rw [arm_eval_Tuple]
  refine wpAny_bind (wpAny_standAt (wpAny_bind (e_list (mini_Snd m n) R F h fun cvs s₁ x1 F1 hl => ?_)))
  obtain ⟨_, _, ⟨t1⟩, _, _, ⟨t2⟩, hn⟩ := hl
  cases (hn : _ = [])
  exact wpAny_newTuple ⟨x1.trans .push, s₁.heap.objs.size, rfl, size_none x1 rfl, fun U hU => .mk _ _ 0 hU (Heap.get?_push_size _ rfl) (.mk _ _ (.mk t1) (.one (.mk t2)))⟩ (by simp [sizeLine])
theorem GStep.ext {L e it : Addr} {s₀ : Shared} (x : GStep L e it s₀ s) (y : Ext s s') : GStep L e it s₀ s' :=
  ⟨fun b o h q => y.keep b o (x.keep b o h q), fun b q => let ⟨o, z⟩ := x.live b q; ⟨o, y.keep b o z⟩, fun i g q => y.gens i g (x.gens i g q), fun q => y.bare (x.bare q), y.os.trans x.os⟩
theorem g_yield {R : GenEnd} {L e it : Addr} {its : List V} {n : Nat} {s₀ : Shared} {cd : Code} {fs : List Frame} {K : Flow → Sem Fin} {H : Value → Sem Fin} {gd : Bool → Bool} {lv : List Value → List Value}
    (Rm : Room (A.over cd fs) 0) (hfs : splitAtGen fs = none) (hgd : gd false = false) (hfg : fs.any Frame.guarded = false) (hco : genv.scope.isCoroutine = false)
    (F : FR fx genv gCx (gW L e it) [] ρ s.heap) (st : GStep L e it s₀ s) {a b : Expr} {p1 p2 p3 : Pos} {m : Nat} {i : Int} {l : List Nat} (h : evL (mini m) gCx ρ [a, b] = some (false, [.int i, .str l]))
    (hit : its[its.length - 1 - n]? = some (.tup [.int i, .str l]))
    (hK : ∀ s'', (∀ b o, gW L e it b → s.heap.get? b = some o → s''.heap.get? b = some o) → (∀ b o, fx.h0.get? b = some o → s''.heap.get? b = some o) → Seg fx.M A R (gY fx its L e it) n s'' cd (K .next) fs s'') :
    Seg fx.M A R (gY fx its L e it) (n + 1) s₀ cd ((exec (yieldS a b p1 p2 p3) genv).wrap K H gd lv) fs s := by
  refine seg_Expr_Yield hfs hgd hfg (wpAny_mono (g_tuple Rm F h) (fun v s₁ h1 => ?_) fun _ _ h => h) hco (by unfold interactive; rw [F.kind]; rfl)
  intro kap hkap
  obtain ⟨x, T, rfl, hT, hv⟩ := h1
  have hTg : ¬ gW L e it T := fun q => by obtain ⟨o, z⟩ := F.alloc T (.inl q); rw [hT] at z; cases z
  refine ⟨_, hit, st.ext x, fun U hU => hv _ fun q => ?_, fun s'' k k0 => ?_⟩
  · rcases q with q | q
    · obtain ⟨o, z⟩ := hU T q
      by_cases hg : gW L e it T
      · exact hTg hg
      · rw [st.keep T o hg z] at hT; cases hT
    · exact hTg q
  · exact hkap .none s'' (hK s'' (fun b o q z => k b o q (x.keep b o z)) k0)
end
end Mine
end
section
open PySem PySem.Calls PyProof.Rows PySem.W
set_option maxRecDepth 10000
namespace Mine
theorem esc_t (i : Nat) (c : Nat) (r : List Nat) : escItems i true (c :: r) = .tup [.int i, .str [92, c]] :: escItems (i + 1) false r := rfl
theorem esc_b (i : Nat) (r : List Nat) : escItems i false (92 :: r) = escItems (i + 1) true r := by simp [escItems]
theorem esc_o (i : Nat) {c : Nat} (h : c ≠ 92) (r : List Nat) : escItems i false (c :: r) = .tup [.int i, .str [c]] :: escItems (i + 1) false r := by simp [escItems, h]
section
variable {ρ : Rho} {i : Int} {c : Nat}
structure GNames (ρ : Rho) (i : Int) (c : Nat) (esc : Bool) : Prop where
  pos : find ρ (nm "pos") = some (.val (.int i))
  ch : find ρ (nm "ch") = some (.val (.str [c]))
  esc : find ρ (nm "escape") = some (.val (.bool esc))
theorem m_name {m : Nat} {x : Str} {v : V} {p : Pos} (h : find ρ x = some (.val v)) : (mini (m + 1)).E gCx ρ (.Name x p) = some (false, v) := by
  show (find ρ x).bind bdE = _
  rw [h]; rfl
theorem ev2 {r : Evs} {a b : Expr} {v w : V} (ha : isStar a = false) (hb : isStar b = false) (e1 : r.E gCx ρ a = some (false, v)) (e2 : r.E gCx ρ b = some (false, w)) : evL r gCx ρ [a, b] = some (false, [v, w]) := by
  show (if isStar a = true then none else (r.E gCx ρ a).bind fun p => (evL r gCx ρ [b]).map fun q => (p.1 || q.1, p.2 :: q.2)) = _
  rw [ha, e1, evL_of_one e2 hb]; rfl
theorem ev_pair {esc : Bool} (N : GNames ρ i c esc) {p1 p2 : Pos} : evL (mini 3) gCx ρ [.Name (nm "pos") p1, .Name (nm "ch") p2] = some (false, [.int i, .str [c]]) := ev2 rfl rfl (m_name N.pos) (m_name N.ch)
theorem ev_esc {esc : Bool} (N : GNames ρ i c esc) {p1 p2 p3 p4 : Pos} : evL (mini 3) gCx ρ [.Name (nm "pos") p1, .BinOp (.Constant bsl 0 p2) .Add (.Name (nm "ch") p3) p4] = some (false, [.int i, .str [92, c]]) := by
  refine ev2 rfl rfl (m_name N.pos) ?_
  show (((mini 2).E gCx ρ (.Name (nm "ch") p3)).bind fun q => binV .Add (.str [92]) q.2).map f0 = _
  rw [m_name N.ch]; rfl
theorem ev_last {esc : Bool} (h : find ρ (nm "pos") = some (.val (.int i))) {p1 p2 : Pos} : evL (mini 3) gCx ρ [.Name (nm "pos") p1, .Constant bsl 0 p2] = some (false, [.int i, .str [92]]) := ev2 rfl rfl (m_name h) rfl
theorem ev_is {esc : Bool} (N : GNames ρ i c esc) {p1 p2 p3 : Pos} : (mini 3).E gCx ρ (.Compare (.Name (nm "ch") p1) [.Eq] [.Constant bsl 0 p2] p3) = some (false, .bool (decide (c = 92))) := by
  show (((mini 2).E gCx ρ (.Name (nm "ch") p1)).bind fun p => ((cmpV .Eq p.2 (.str [92])).bind fun b => some b)).map (fun b => f0 (.bool b)) = _
  rw [m_name N.ch]
  show some (false, V.bool (decide ([c] = [92]))) = _
  simp
end
end Mine
end
section
open PySem PySem.Calls PyProof.Rows PySem.W
set_option maxRecDepth 10000
namespace Mine
section
variable {fx : Fix} {A : Around} {genv : Env} {ρ : Rho} {s s' : Shared} {R : GenEnd} {L e it : Addr} {its : List V} {n : Nat} {s₀ : Shared} {cd : Code} {fs : List Frame} {K : Flow → Sem Fin} {H : Value → Sem Fin} {gd : Bool → Bool} {lv : List Value → List Value}
theorem g_if (Rm : Room (A.over cd fs) 0) (F : FR fx genv gCx (gW L e it) [] ρ s.heap) {t : Expr} {b : Bool} {m : Nat} (h : (mini m).E gCx ρ t = some (false, .bool b)) {body orelse : List Stmt} {p : Pos} {Y : Protocol}
    (hK : ∀ s', Ext s s' → Seg fx.M A R Y n s₀ cd ((if b = true then execs body genv else execs orelse genv).wrap K H gd lv) fs s') :
    Seg fx.M A R Y n s₀ cd ((exec (.If t body orelse p) genv).wrap K H gd lv) fs s :=
  seg_If (wpAny_mono ((mini_Snd m 0).T Rm F h _) (fun b' s' h1 => by rw [h1.1]; exact hK s' h1.2) fun _ _ h => h)
theorem g_set (Rm : Room (A.over cd fs) 0) (F : FR fx genv gCx (gW L e it) [] ρ s.heap) {x : Str} {v : Expr} {w : V} {m : Nat} {p p2 : Pos} {Y : Protocol} (hk : okK gCx x = true) (hc : anyComp v = false) (h : (mini m).E gCx ρ v = some (false, w))
    (hK : ∀ s', Stp genv [] [] s s' → FR fx genv gCx (gW L e it) [] (upd ρ x (.val w)) s'.heap → OnlyL genv s s' → Seg fx.M A R Y n s₀ cd (K .next) fs s') (hl : gCx.k.lookup x = some .local) :
    Seg fx.M A R Y n s₀ cd ((exec (.Assign [.Name x p] v p2) genv).wrap K H gd lv) fs s := by
  refine seg_stmt (wpAny_Assign_Name (wpAny_mono ((mini_Snd m 0).E Rm F h _) (fun cv s₁ h1 => ?_) fun _ _ h => h) (swaps_no hc))
  refine (F.ext h1.1).put hk h1.2 fun s₂ st F2 hL => hK s₂ ((Stp.of_ext h1.1).trans st) F2 fun b o hb q => hL hl b o hb (h1.1.keep b o q)
end
end Mine
end
section
open PySem PySem.Calls PyProof.Rows PySem.W
set_option maxRecDepth 10000
namespace Mine
section
variable {fx : Fix} {A : Around} {genv : Env} {ρ : Rho} {s s' : Shared} {R : GenEnd} {L e it : Addr} {its : List V} {s₀ : Shared} {cd : Code} {fs : List Frame} {K : Flow → Sem Fin} {H : Value → Sem Fin} {gd : Bool → Bool} {lv : List Value → List Value}
theorem g_turn_t (Rm : Room (A.over cd fs) 0) (hfs : splitAtGen fs = none) (hgd : gd false = false) (hfg : fs.any Frame.guarded = false) (hco : genv.scope.isCoroutine = false) (hcl : genv.cells = []) {q : Nat → Pos} {n i c : Nat}
    (F : FR fx genv gCx (gW L e it) [] ρ s.heap) (fr : Free (fx := fx) ρ) (st : GStep L e it s₀ s) (N : GNames ρ i c true) (hit : its[its.length - 1 - n]? = some (.tup [.int i, .str [92, c]]))
    (hK : ∀ s₁ s₂, (∀ b o, gW L e it b → s.heap.get? b = some o → s₁.heap.get? b = some o) → Stp genv [] [] s₁ s₂ → OnlyL genv s₁ s₂ → FR fx genv gCx (gW L e it) [] (upd ρ (nm "escape") (.val (.bool false))) s₂.heap → Seg fx.M A R (gY fx its L e it) n s₁ cd (K .next) fs s₂) :
    Seg fx.M A R (gY fx its L e it) (n + 1) s₀ cd ((execs (gTurn q) genv).wrap K H gd lv) fs s := by
  refine seg_execs_cons (g_if Rm F (m := 1) (b := true) (m_name N.esc) fun s₁ x => ?_)
  rw [if_pos rfl]
  have F1 := F.ext x
  refine seg_execs_cons (g_yield Rm hfs hgd hfg hco F1 (st.ext x) (ev_esc N) hit fun s₂ k k0 => ?_)
  have F2 := g_back F1 fr hcl k k0
  refine seg_execs_cons (g_set Rm F2 (m := 1) (w := .bool false) (by decide) rfl rfl (fun s₃ sp F3 hL => ?_) (by decide))
  exact seg_execs_nil (seg_execs_nil (hK s₂ s₃ (fun b o h z => k b o h (x.keep b o z)) sp hL F3))
theorem g_turn_b (Rm : Room (A.over cd fs) 0) {q : Nat → Pos} {n i : Nat} {Y : Protocol} (F : FR fx genv gCx (gW L e it) [] ρ s.heap) (N : GNames ρ i 92 false)
    (hK : ∀ s₂, Stp genv [] [] s s₂ → OnlyL genv s s₂ → FR fx genv gCx (gW L e it) [] (upd ρ (nm "escape") (.val (.bool true))) s₂.heap → Seg fx.M A R Y n s₀ cd (K .next) fs s₂) :
    Seg fx.M A R Y n s₀ cd ((execs (gTurn q) genv).wrap K H gd lv) fs s := by
  refine seg_execs_cons (g_if Rm F (m := 1) (b := false) (m_name N.esc) fun s₁ x => ?_)
  rw [if_neg Bool.false_ne_true]
  refine seg_execs_cons (g_if Rm (F.ext x) (m := 3) (b := true) (by rw [ev_is N]; rfl) fun s₂ x2 => ?_)
  rw [if_pos rfl]
  refine seg_execs_cons (g_set Rm ((F.ext x).ext x2) (m := 1) (w := .bool true) (by decide) rfl rfl (fun s₃ sp F3 hL => ?_) (by decide))
  exact seg_execs_nil (seg_execs_nil (seg_execs_nil (hK s₃ ((Stp.of_ext (x.trans x2)).trans sp) (fun b o hb z => hL b o hb ((x.trans x2).keep b o z)) F3)))
theorem g_turn_o (Rm : Room (A.over cd fs) 0) (hfs : splitAtGen fs = none) (hgd : gd false = false) (hfg : fs.any Frame.guarded = false) (hco : genv.scope.isCoroutine = false) (hcl : genv.cells = []) {q : Nat → Pos} {n i c : Nat} (hc : c ≠ 92)
    (F : FR fx genv gCx (gW L e it) [] ρ s.heap) (fr : Free (fx := fx) ρ) (st : GStep L e it s₀ s) (N : GNames ρ i c false) (hit : its[its.length - 1 - n]? = some (.tup [.int i, .str [c]]))
    (hK : ∀ s₁, (∀ b o, gW L e it b → s.heap.get? b = some o → s₁.heap.get? b = some o) → FR fx genv gCx (gW L e it) [] ρ s₁.heap → Seg fx.M A R (gY fx its L e it) n s₁ cd (K .next) fs s₁) :
    Seg fx.M A R (gY fx its L e it) (n + 1) s₀ cd ((execs (gTurn q) genv).wrap K H gd lv) fs s := by
  refine seg_execs_cons (g_if Rm F (m := 1) (b := false) (m_name N.esc) fun s₁ x => ?_)
  rw [if_neg Bool.false_ne_true]
  refine seg_execs_cons (g_if Rm (F.ext x) (m := 3) (b := false) (by rw [ev_is N]; simp [hc]) fun s₂ x2 => ?_)
  rw [if_neg Bool.false_ne_true]
  have F2 := (F.ext x).ext x2
  refine seg_execs_cons (g_yield Rm hfs hgd hfg hco F2 ((st.ext x).ext x2) (ev_pair N) hit fun s₃ k k0 => ?_)
  exact seg_execs_nil (seg_execs_nil (seg_execs_nil (hK s₃ (fun b o h z => k b o h ((x.trans x2).keep b o z)) (g_back F2 fr hcl k k0))))
end
end Mine
end
section
open PySem PySem.Calls PyProof.Rows PySem.W
set_option maxRecDepth 10000
namespace Mine
section
variable {fx : Fix} {A : Around} {genv : Env} {ρ : Rho} {s s' : Shared} {R : GenEnd} {L e it : Addr} {its : List V} {s₀ : Shared} {cd : Code} {fs : List Frame}
theorem GStep.stp (x : GStep L e it s₀ s) {ρ' : Rho} (F : FR fx genv gCx (gW L e it) [] ρ' s'.heap) (hL : genv.locals = L) (hcl : genv.cells = []) (y : Stp genv [] [] s s') : GStep L e it s₀ s' := by
  refine ⟨fun b o h q => y.keep b o (fun z => ?_) (x.keep b o h q), fun b q => F.alloc b (.inl q), fun i g q => y.gens i g (x.gens i g q), fun q => y.bare (x.bare q), y.os.trans x.os⟩
  rcases z with (z | ⟨w, z⟩) | ⟨w, z⟩
  · exact h (.inl (z.trans hL))
  · rw [hcl] at z; cases z
  · cases z
theorem GStep.refl' {ρ' : Rho} (F : FR fx genv gCx (gW L e it) [] ρ' s.heap) : GStep L e it s s := ⟨fun _ _ _ q => q, fun b q => F.alloc b (.inl q), fun _ _ q => q, fun q => q, rfl⟩
theorem GInv.move {l : List Nat} {tx : Tok} {i : Nat} {ρ' : Rho} (I : GInv fx genv L e it l tx i ρ s) (F : FR fx genv gCx (gW L e it) [] ρ' s'.heap) (k : ∀ b o, b ≠ L → gW L e it b → s.heap.get? b = some o → s'.heap.get? b = some o) : GInv fx genv L e it l tx i ρ' s' := by
  obtain ⟨_, hL, hcl, ⟨old, he⟩, ⟨oi, hoi, roi⟩, n1, n2, n3⟩ := I
  exact ⟨F, hL, hcl, ⟨old, k e _ n2 (.inr (.inl rfl)) he⟩, ⟨oi, k it _ n3 (.inr (.inr rfl)) hoi, roi⟩, n1, n2, n3⟩
theorem Free.put (fr : Free (fx := fx) ρ) (x : Str) {v : V} (h : (∃ b, v = .bool b) ∨ (∃ i, v = .int i) ∨ ∃ l, v = .str l) : Free (fx := fx) (upd ρ x (.val v)) := by
  intro y b e
  by_cases hy : y = x
  · subst hy; rw [find_self] at e; cases e; exact ⟨_, rfl, free_v h⟩
  · rw [find_other hy] at e; exact fr y b e
noncomputable def gBound (ρ : Rho) (i : Int) (c : Nat) : Rho := upd (upd ρ (nm "pos") (.val (.int i))) (nm "ch") (.val (.str [c]))
theorem g_bindT {q : Nat → Pos} {i : Int} {c : Nat} : bindT gCx ρ (gTarget q) (.tup [.int i, .str [c]]) = some (gBound ρ i c) := by
  have h1 : okN gCx (nm "pos") = true := by decide
  have h2 : okN gCx (nm "ch") = true := by decide
  show (if okN gCx (nm "pos") = true then (if okN gCx (nm "ch") = true then some _ else none) else none) = _
  rw [h1, h2]; rfl
theorem g_names {i : Int} {c : Nat} {b : Bool} (h : find ρ (nm "escape") = some (.val (.bool b))) : GNames (gBound ρ i c) i c b := by
  refine ⟨?_, ?_, ?_⟩
  · unfold gBound; rw [find_other (by decide), find_self]
  · unfold gBound; rw [find_self]
  · unfold gBound; rw [find_other (by decide), find_other (by decide)]; exact h
theorem item_at {n : Nat} {v : V} {r : List V} (hn : n + 1 ≤ its.length) (h : its.drop (its.length - (n + 1)) = v :: r) : its[its.length - 1 - n]? = some v ∧ its.drop (its.length - n) = r := by
  obtain ⟨e1, e2, e3⟩ := drop_cons h
  refine ⟨by rw [show its.length - 1 - n = its.length - (n + 1) by omega]; exact e1, ?_⟩
  rw [show its.length - n = its.length - (n + 1) + 1 by omega]; exact e2
theorem left_zero {n : Nat} (hn : n ≤ its.length) (h : its.drop (its.length - n) = []) : n = 0 := by
  have := List.drop_eq_nil_iff.mp h
  omega
theorem left_succ {n : Nat} {v : V} {r : List V} (hn : n ≤ its.length) (h : its.drop (its.length - n) = v :: r) : ∃ m, n = m + 1 := by
  cases n with
  | zero => simp at h
  | succ m => exact ⟨m, rfl⟩
structure GTop (fx : Fix) (l : List Nat) (its : List V) (i : Nat) (esc : Bool) (ρ : Rho) (n : Nat) : Prop where
  fr : Free (fx := fx) ρ
  he : find ρ (nm "escape") = some (.val (.bool esc))
  pos : find ρ (nm "pos") = some (.val (.int ((i - 1 : Nat) : Int)))
  p1 : esc = true → 0 < i
  le : n ≤ its.length
  left : its.drop (its.length - n) = escItems i esc (l.drop i)
noncomputable def gLoop (q : Nat → Pos) (e : Addr) (genv : Env) : Code := .forLoop (gTarget q) (.ref e) (gTurn q) [] genv
theorem g_loop {q : Nat → Pos} {l : List Nat} {tx : Tok} {k : Result → Sem Fin} {h g lv} {p : Pos}
    (Rm : Room (A.over (gLoop q e genv) (.ret k h g lv cd p [] :: fs)) 0) (hfs : splitAtGen (.ret k h g lv cd p [] :: fs) = none) (hfg : (Frame.ret k h g lv cd p [] :: fs).any Frame.guarded = false) (hco : genv.scope.isCoroutine = false)
    (hEnd : ∀ n s₀ s esc ρ, FR fx genv gCx (gW L e it) [] ρ s.heap → GStep L e it s₀ s → GTop fx l its l.length esc ρ n → Seg fx.M A R (gY fx its L e it) n s₀ cd (k (.ok .next)) fs s) :
    ∀ (rest : List Nat) (i : Nat) (esc : Bool) (ρ : Rho) (n : Nat) (s₀ s : Shared), l.drop i = rest → i ≤ l.length → GInv fx genv L e it l tx i ρ s → GTop fx l its i esc ρ n → GStep L e it s₀ s →
      Seg fx.M A R (gY fx its L e it) n s₀ (gLoop q e genv) (fx.M.den (gLoop q e genv)) (.ret k h g lv cd p [] :: fs) s
  | [], i, esc, ρ, n, s₀, s, hr, hi, I, T, st => by
    have hi := drop_nil hr hi
    subst hi
    refine seg_forLoop fun X => wpAny_mono (g_done Rm.handled I X) (fun o s₁ h1 => ?_) fun _ _ h => h
    obtain ⟨rfl, F1, st1⟩ := h1
    refine seg_block (seg_execs_nil ?_)
    exact seg_leaf (.ok .next) (hEnd n s₀ s₁ esc ρ F1 (st.trans st1) T)
  | c :: rest, i, esc, ρ, n, s₀, s, hr, hi, I, T, st => by
    obtain ⟨e1, e2, e3⟩ := drop_cons hr
    refine seg_forLoop fun X => wpAny_mono (g_next (ts := [.Name (nm "pos") (q 24), .Name (nm "ch") (q 25)]) (k := 0) (p := q 26) Rm.handled I T.fr e1 X (fun _ _ => False)) (fun o s₁ h1 => ?_) fun _ _ h => h
    obtain ⟨Tt, rfl, h1⟩ := h1
    intro X
    refine wpAny_mono h1 (fun _ s₂ h2 => ?_) fun _ _ h => h.elim
    obtain ⟨I2, st2, hv⟩ := h2
    intro X
    refine wpAny_mono (b_sound Rm I2.fr (g_bindT (ρ := ρ) (q := q)) (hv.move fx fun b o hb z => ⟨fun y => hb (y.elim id fun ⟨_, y⟩ => by cases y), z⟩)) (fun _ s₃ h3 => ?_) fun _ _ h => h
    obtain ⟨sp3, F3, o3⟩ := h3
    have o3 := o3 fun x hx => (by decide : ∀ x ∈ [nm "pos", nm "ch"], gCx.k.lookup x = some .local) x hx
    have hL := I2.loc
    have hcl := I2.cells
    have I3 : GInv fx genv L e it l tx (i + 1) (gBound ρ i c) s₃ := I2.move F3 fun b o hb _ z => o3 b o (fun y => hb (y.trans hL)) z
    have st3 : GStep L e it s₀ s₃ := (st.trans st2).stp F3 hL hcl sp3
    have fr3 : Free (fx := fx) (gBound ρ i c) := (T.fr.put _ (.inr (.inl ⟨_, rfl⟩))).put _ (.inr (.inr ⟨_, rfl⟩))
    have N := g_names (i := i) (c := c) T.he
    have left := T.left
    rw [hr] at left
    have lp : (((i + 1 - 1 : Nat) : Nat) : Int) = i := by simp
    cases esc with
    | true =>
      rw [esc_t] at left
      obtain ⟨m, rfl⟩ := left_succ T.le left
      obtain ⟨t1, t2⟩ := item_at T.le left
      refine g_turn_t Rm hfs rfl hfg hco hcl F3 fr3 st3 N t1 fun s₄ s₅ k4 sp5 o5 F5 => ?_
      refine seg_again rfl (g_loop (tx := tx) Rm hfs hfg hco hEnd rest (i + 1) false _ m s₄ s₅ e2 (by omega) ?_ ⟨fr3.put _ (.inl ⟨_, rfl⟩), find_self, ?_, fun _ => by omega, by have := T.le; omega, by rw [t2, e2]⟩ ?_)
      · exact I3.move F5 fun b o hb hg z => o5 b o (fun y => hb (y.trans hL)) (k4 b o hg z)
      · rw [find_other (by decide), N.pos, lp]
      · exact ⟨fun b o hb z => sp5.keep b o (fun y => hb (by
          rcases y with (y | ⟨w, y⟩) | ⟨w, y⟩
          · exact .inl (y.trans hL)
          · rw [hcl] at y; cases y
          · cases y)) z, fun b q => F5.alloc b (.inl q), sp5.gens, sp5.bare, sp5.os⟩
    | false =>
      by_cases hc : c = 92
      · subst hc
        rw [esc_b] at left
        refine g_turn_b Rm F3 N fun s₅ sp5 o5 F5 => ?_
        refine seg_again rfl (g_loop (tx := tx) Rm hfs hfg hco hEnd rest (i + 1) true _ n s₀ s₅ e2 (by omega) ?_ ⟨fr3.put _ (.inl ⟨_, rfl⟩), find_self, ?_, fun _ => by omega, T.le, by rw [left, e2]⟩ (st3.stp F5 hL hcl sp5))
        · exact I3.move F5 fun b o hb hg z => o5 b o (fun y => hb (y.trans hL)) z
        · rw [find_other (by decide), N.pos, lp]
      · rw [esc_o i hc] at left
        obtain ⟨m, rfl⟩ := left_succ T.le left
        obtain ⟨t1, t2⟩ := item_at T.le left
        refine g_turn_o Rm hfs rfl hfg hco hcl hc F3 fr3 st3 N t1 fun s₄ k4 F5 => ?_
        refine seg_again rfl (g_loop (tx := tx) Rm hfs hfg hco hEnd rest (i + 1) false _ m s₄ s₄ e2 (by omega) ?_ ⟨fr3, N.esc, ?_, fun _ => by omega, by have := T.le; omega, by rw [t2, e2]⟩ (.refl' F5))
        · exact I3.move F5 fun b o hb hg z => k4 b o hg z
        · rw [N.pos, lp]
end
end Mine
end
section
open PySem PySem.Calls PyProof.Rows PySem.W
set_option maxRecDepth 10000
namespace Mine
section
variable {fx : Fix} {A : Around} {genv : Env} {ρ : Rho} {s s' : Shared} {R : GenEnd} {L e it : Addr} {its : List V} {s₀ : Shared} {cd : Code} {fs : List Frame}
theorem g_enum (Z : Stat fx) (Rm : Room A 0) {Wl : Addr → Prop} (F : FR fx genv gCx Wl [] ρ s.heap) {l : List Nat} (ha : find ρ (nm "addr") = some (.val (.str l))) {p1 p2 p3 : Pos} {X₁ X₂ : Value → Shared → Prop} :
    wpAny fx.M A (eval (.Call (.Name (nm "enumerate") p1) [.Name (nm "addr") p2] [] p3) genv) (fun x s₁ => wpAny fx.M A (pyIter x) (fun v s₂ => v = .ref (s.heap.objs.size + 1) ∧ Ext s s₂ ∧
      IsEnum s₂.heap (s.heap.objs.size + 1) s.heap.objs.size 0 .none ∧ ∃ t, s₂.heap.IsStrIter s.heap.objs.size (strIterType ⟨l.toArray⟩) ⟨l.toArray⟩ t 0) X₂ s₁) X₁ s := by
  obtain ⟨z1, z2⟩ := Z.bi (nm "enumerate") (.type "enumerate") (by decide)
  obtain ⟨cv, h1, h2⟩ := F.bind _ _ ha
  obtain ⟨t⟩ := h2
  refine Call_Name rfl (built_at F (by decide) z1 z2 ?_)
  refine callWith_of (P := fun h => h = s.heap) (by rfl) (fun h e => e ▸ keep_plain ⟨_, .inr rfl⟩) ?_
  refine evalArgs_plain (spliced_more (name_at F h1 (spliced_none ⟨rfl, ?_⟩)))
  refine call_enumerate_str fun h' k1 k2 k3 k4 => ?_
  exact wpAny_pyIter_enum k1 ⟨rfl, .heap k4, k1, _, k2⟩
theorem g_set0 {Wl : Addr → Prop} (F : FR fx genv gCx Wl [] ρ s.heap) {x : Str} {v : Expr} {w : V} {p p2 : Pos} {Y : Protocol} {n : Nat} {K : Flow → Sem Fin} {H : Value → Sem Fin} {gd : Bool → Bool} {lv : List Value → List Value} (hk : okK gCx x = true) (hc : anyComp v = false)
    (h : ∀ X, wpAny fx.M (A.over cd fs) (eval v genv) (fun cv s' => s'.heap = s.heap ∧ Ext s s' ∧ RepV fx (Wf Wl []) s'.heap w cv) X s)
    (hK : ∀ s', Stp genv [] [] s s' → FR fx genv gCx Wl [] (upd ρ x (.val w)) s'.heap → s'.heap.objs.size = s.heap.objs.size → Seg fx.M A R Y n s₀ cd (K .next) fs s') :
    Seg fx.M A R Y n s₀ cd ((exec (.Assign [.Name x p] v p2) genv).wrap K H gd lv) fs s := by
  refine seg_stmt (wpAny_Assign_Name (wpAny_mono (h _) (fun cv s₁ h1 => ?_) fun _ _ h => h) (swaps_no hc))
  obtain ⟨e1, x1, hv⟩ := h1
  refine (F.ext x1).putB' hk (bd := .val w) hv fun s₂ st F2 _ _ hz => hK s₂ ((Stp.of_ext x1).trans st) F2 (by rw [hz, e1])
theorem g_end {q : Nat → Pos} {l : List Nat} {n : Nat} {esc : Bool} {K : Flow → Sem Fin} {H : Value → Sem Fin} {gd : Bool → Bool} {lv : List Value → List Value}
    (Rm : Room (A.over cd fs) 0) (hfs : splitAtGen fs = none) (hgd : gd false = false) (hfg : fs.any Frame.guarded = false) (hco : genv.scope.isCoroutine = false) (hcl : genv.cells = [])
    (F : FR fx genv gCx (gW L e it) [] ρ s.heap) (st : GStep L e it s₀ s) (T : GTop fx l its l.length esc ρ n)
    (hK : ∀ s₀ s', GStep L e it s₀ s' → Seg fx.M A R (gY fx its L e it) 0 s₀ cd (K .next) fs s') :
    Seg fx.M A R (gY fx its L e it) n s₀ cd ((execs [gLast q] genv).wrap K H gd lv) fs s := by
  have left := T.left
  rw [List.drop_length] at left
  cases esc with
  | false =>
    have h0 : n = 0 := left_zero T.le (by rw [left]; rfl)
    subst h0
    refine seg_execs_cons (g_if Rm F (m := 1) (b := false) (m_name T.he) fun s₁ x => ?_)
    rw [if_neg Bool.false_ne_true]
    exact seg_execs_nil (seg_execs_nil (hK _ _ (st.ext x)))
  | true =>
    have hp := T.p1 rfl
    have left : its.drop (its.length - n) = [.tup [.int ((l.length : Int) - 1), .str [92]]] := left
    obtain ⟨m, rfl⟩ := left_succ T.le left
    obtain ⟨t1, t2⟩ := item_at T.le left
    have h0 : m = 0 := left_zero (by have := T.le; omega) t2
    subst h0
    have hpos := T.pos
    rw [show (((l.length - 1 : Nat) : Nat) : Int) = (l.length : Int) - 1 by omega] at hpos
    refine seg_execs_cons (g_if Rm F (m := 1) (b := true) (m_name T.he) fun s₁ x => ?_)
    rw [if_pos rfl]
    have F1 := F.ext x
    refine seg_execs_cons (g_yield Rm hfs hgd hfg hco F1 (st.ext x) (ev_last (esc := true) hpos) t1 fun s₂ k k0 => ?_)
    have F2 := g_back F1 T.fr hcl k k0
    exact seg_execs_nil (seg_execs_nil (hK _ _ (.refl' F2)))
noncomputable def gEnd (L e it : Addr) : GenEnd := fun n s₀ r s₁ => r = .ok (.ret .none) ∧ (n = 0 ∧ GStep L e it s₀ s₁)
theorem g_body (Z : Stat fx) {q : Nat → Pos} {l : List Nat} (hco : genv.scope.isCoroutine = false) (hcl : genv.cells = []) (hL : genv.locals = L) (Rf : Room (A.over (.func (gBody q) genv) []) 0)
    (Rl : ∀ e k g lv p, Room (A.over (gLoop q e genv) [.ret k none g lv (.func (gBody q) genv) p []]) 0) (F : FR fx genv gCx (· = L) [] [(nm "addr", .val (.str l))] s.heap) :
    Seg fx.M A (gEnd L (s.heap.objs.size + 1) s.heap.objs.size) (gY fx (escItems 0 false l) L (s.heap.objs.size + 1) s.heap.objs.size) (escItems 0 false l).length s (.func (gBody q) genv) (fx.M.den (.func (gBody q) genv)) [] s := by
  refine seg_func ?_
  refine seg_execs_cons (g_set0 F (w := .int 0) (by decide) rfl (fun X => wpAny_Constant_int ⟨rfl, .tok, int_v⟩) fun s₁ st1 F1 z1 => ?_)
  refine seg_execs_cons (g_set0 F1 (w := .bool false) (by decide) rfl (fun X => wpAny_pure ⟨rfl, .refl _, bool_v⟩) fun s₂ st2 F2 z2 => ?_)
  have zz : s₂.heap.objs.size = s.heap.objs.size := z2.trans z1
  have st12 := st1.trans st2
  refine seg_execs_cons (seg_For (not_set rfl) (wpAny_mono (g_enum (l := l) (X₂ := fun _ _ => False) Z Rf F2 (by rw [find_other (by decide), find_other (by decide)]; rfl)) (fun xv s₃ h3 => ?_) fun _ _ h => h))
  refine wpAny_mono h3 (fun v s₄ h4 => ?_) fun _ _ h => h.elim
  obtain ⟨rfl, x4, k1, t, k2⟩ := h4
  rw [zz] at k1 k2 ⊢
  intro p
  have n0 : s₂.heap.get? s.heap.objs.size = none := by rw [← zz]; exact get?_size _
  have n1 : s₂.heap.get? (s.heap.objs.size + 1) = none := by
    cases y : s₂.heap.get? (s.heap.objs.size + 1) with
    | none => rfl
    | some o => exact absurd (Nat.lt_of_lt_of_eq (Heap.lt_size y) zz) (Nat.not_lt_of_le (Nat.le_succ _))
  have hLo : ∃ o, s₂.heap.get? L = some o := F2.alloc L (.inl rfl)
  obtain ⟨oL, hoL⟩ := hLo
  have lv4 : ∀ b, gW L (s.heap.objs.size + 1) s.heap.objs.size b → ∃ o, s₄.heap.get? b = some o := fun b y => by
    rcases y with y | y | y
    · subst y; exact ⟨_, x4.keep _ _ hoL⟩
    · subst y; exact ⟨_, k1⟩
    · subst y; obtain ⟨o, ho, _⟩ := k2; exact ⟨o, ho⟩
  have F4 : FR fx genv gCx (gW L (s.heap.objs.size + 1) s.heap.objs.size) [] (upd (upd [(nm "addr", .val (.str l))] (nm "pos") (.val (.int 0))) (nm "escape") (.val (.bool false))) s₄.heap := by
    refine F2.chg' (P := fun _ => False) (fun b y => y.elim) (fun b o _ y => x4.keep b o y) (fun b y => ?_) (fun b y => ?_) lv4
    · rcases y with y | ⟨w, y⟩
      · exact .inl (y.trans hL)
      · rw [hcl] at y; cases y
    · rcases y with y | y | y
      · exact .inl y
      · subst y; exact .inr n1
      · subst y; exact .inr n0
  have fr : Free (fx := fx) (upd (upd [(nm "addr", .val (.str l))] (nm "pos") (.val (.int 0))) (nm "escape") (.val (.bool false))) := by
    refine Free.put (Free.put (fun x b h => ?_) _ (.inr (.inl ⟨_, rfl⟩))) _ (.inl ⟨_, rfl⟩)
    have hm := mem_of_lookup h
    simp only [List.mem_cons, List.not_mem_nil, or_false, Prod.mk.injEq] at hm
    obtain ⟨_, rfl⟩ := hm
    exact ⟨_, rfl, free_v (.inr (.inr ⟨_, rfl⟩))⟩
  refine g_loop (tx := t) (Rl _ _ _ _ _) rfl rfl hco (fun n s₀' s' esc ρ' F' st' T' => ?_) l 0 false _ _ s s₄ rfl (Nat.zero_le _) ⟨F4, hL, hcl, ⟨_, k1⟩, k2, ?_⟩ ⟨fr, find_self, ?_, fun y => (by cases y), Nat.le_refl _, ?_⟩ ?_
  · show Seg _ _ _ _ _ _ _ ((execs [gLast q] genv).wrap _ _ _ _) [] s'
    refine g_end Rf rfl rfl rfl hco hcl F' st' T' fun s₀'' s'' st'' => ?_
    exact seg_end (.ok (.ret .none)) ⟨rfl, rfl, st''⟩
  · refine ⟨Nat.succ_ne_self _, fun y => ?_, fun y => ?_⟩
    · rw [y] at n1; rw [n1] at hoL; cases hoL
    · rw [y] at n0; rw [n0] at hoL; cases hoL
  · rw [find_other (by decide), find_self]; rfl
  · simp
  · refine ⟨fun b o hb y => x4.keep b o (st12.keep b o (fun z => hb ?_) y), lv4, fun i g y => x4.gens i g (st12.gens i g y), fun y => x4.bare (st12.bare y), x4.os.trans st12.os⟩
    rcases z with (z | ⟨w, z⟩) | ⟨w, z⟩
    · exact .inl (z.trans hL)
    · rw [hcl] at z; cases z
    · cases z
end
end Mine
end
section
open PySem PySem.Calls PyProof.Rows PySem.W
set_option maxRecDepth 10000
namespace Mine
section
variable {fx : Fix} {A : Around} {genv : Env} {s s' : Shared} {L I : Addr} {g : Nat} {its : List V}
structure GSt (fx : Fix) (A : Around) (L I : Addr) (g : Nat) (its : List V) (wr : Addr → Prop) (n : Nat) (s : Shared) : Prop where
  b0 : BaseH fx fx.h0
  old : ∀ b o, fx.h0.get? b = some o → ¬ wr b ∧ s.heap.get? b = some o
  live : ∀ b, wr b → ∃ o, s.heap.get? b = some o
  notI : ¬ wr I
  isL : wr L
  obj : s.heap.IsGen I g
  go : ∃ gs, s.gens[g]? = some gs ∧ ∀ s', (∀ b o, wr b → s.heap.get? b = some o → s'.heap.get? b = some o) → (∀ b o, fx.h0.get? b = some o → s'.heap.get? b = some o) →
    ∃ e it, (∀ b, wr b → gW L e it b) ∧ (∀ b, gW L e it b → wr b ∨ s'.heap.get? b = none) ∧ gs.Goes fx.M A.in1 (gEnd L e it) (gY fx its L e it) n (.send .none) s'
theorem AllBare.set (h : AllBare s.gens) {x : GenState} (hx : x.bare = true) : AllBare (s.setGen g x).gens := by
  intro y hy
  obtain ⟨i, hi, e⟩ := Array.mem_iff_getElem.mp hy
  by_cases q : i = g
  · subst q
    have : (s.setGen i x).gens[i]? = some y := by rw [Array.getElem?_eq_getElem hi, e]
    have hsz : i < s.gens.size := by have := (GenOnly.setGen s i x).1; omega
    have h2 := setGen_self (x := x) (Array.getElem?_eq_getElem hsz)
    rw [h2] at this; cases this; exact hx
  · have := (GenOnly.setGen s g x).2 i q
    rw [Array.getElem?_eq_getElem hi, e] at this
    obtain ⟨h1, h2⟩ := Array.getElem?_eq_some_iff.mp this.symm
    exact h y (h2 ▸ Array.getElem_mem h1)
theorem GSt.base {wr : Addr → Prop} {n : Nat} (x : GSt fx A L I g its wr n s) : BaseH fx s.heap := x.b0.keeps fun b o e => (x.old b o e).2
theorem gens_other {i : Nat} {x y : GenState} (h : i ≠ g) (e : s.gens[i]? = some y) : (s.setGen g x).gens[i]? = some y := ((GenOnly.setGen s g x).2 i h).trans e
theorem g_item {wr : Addr → Prop} {U : Addr → Prop} {v : V} {vs : List V} {n : Nat} {target : Expr} (R : Room A 1) (x : GSt fx A L I g its wr n s) (hn : n ≤ its.length) (hv : its.drop (its.length - n) = v :: vs)
    (hU : ∀ b, U b → ∃ o, s.heap.get? b = some o) (X₁ X₂ : Value → Shared → Prop) :
    wpAny fx.M A (pyNext (.ref I)) (fun o s₁ => ∃ c, o = some c ∧ wpAny fx.M A (letOwnedTupleGo target (.ref I) c) (fun _ s' => ∃ wr' m, n = m + 1 ∧ RepV fx (fun b => U b ∨ wr' b) s'.heap v c ∧ GSt fx A L I g its wr' m s' ∧ its.drop (its.length - m) = vs ∧ Chg wr wr' (· = g) s s') X₂ s₁) X₁ s := by
  obtain ⟨m, rfl⟩ := left_succ hn hv
  obtain ⟨t1, t2⟩ := item_at hn hv
  obtain ⟨gs, hgs, hgo⟩ := x.go
  obtain ⟨e, it, w1, w2, hgo⟩ := hgo (s.setGen g .running) (fun _ _ _ e => e) (fun b o e => (x.old b o e).2)
  have hroom : A.depth < recursionLimit := by have := R.depth; have : recursionLimit = 1000 := rfl; omega
  have hI : ¬ gW L e it I := fun q => by
    rcases w2 _ q with q | q
    · exact x.notI q
    · obtain ⟨o, _, _, ho, _⟩ := x.obj
      rw [show s.heap.get? I = none from q] at ho; cases ho
  refine next_gen (P := fun n s₀ s₁ => n = 0 ∧ GStep L e it s₀ s₁) (Y := gY fx its L e it) (n := m + 1) R.handled x.base.nolimit hroom x.obj hgs hgo (fun c s₁ gs' hb hy => ?_) (fun s₁ hp => absurd hp.1 (Nat.succ_ne_zero m))
  obtain ⟨item, y1, y2, y3, y4⟩ := hy
  rw [show m + 1 - 1 = m from rfl, t1] at y1
  cases y1
  refine ⟨c, rfl, ?_⟩
  have obj' : s₁.heap.IsGen I g := by
    obtain ⟨o, nm, qn, ho, r⟩ := x.obj
    exact ⟨o, nm, qn, y2.keep I o hI ho, r⟩
  obtain ⟨o, _, _, ho, hc, _⟩ := id obj'
  have nw : ∀ b o, ¬ wr b → s.heap.get? b = some o → ¬ gW L e it b := fun b o hb ho q => by
    rcases w2 b q with q | q
    · exact hb q
    · rw [show s.heap.get? b = none from q] at ho; cases ho
  have hg1 : s₁.gens[g]? = some .running := y2.gens g _ (setGen_self hgs)
  refine go_not (s := s₁.setGen g gs') ho hc (by decide) ⟨gW L e it, m, rfl, y3 U hU, ⟨x.b0, fun b o h => ?_, y2.live, hI, .inl rfl, obj', gs', setGen_self hg1, fun s'' k k0 => ⟨e, it, fun _ q => q, fun _ q => .inl q, y4 s'' k k0⟩⟩, t2, ⟨?_, w1, w2, y2.live⟩⟩
  · have := x.old b o h
    have z := nw b o this.1 this.2
    exact ⟨z, y2.keep b o z this.2⟩
  · refine ⟨fun b o hb h => y2.keep b o (nw b o hb h) h, fun i z hi h => gens_other hi (y2.gens i z (gens_other hi h)), fun h => AllBare.set (y2.bare (AllBare.set h rfl)) hb, y2.os⟩
theorem g_stop {wr : Addr → Prop} (R : Room A 1) (x : GSt fx A L I g its wr 0 s) (X : Value → Shared → Prop) :
    wpAny fx.M A (pyNext (.ref I)) (fun o s' => o = none ∧ Chg0 wr (· = g) s s') X s := by
  obtain ⟨gs, hgs, hgo⟩ := x.go
  obtain ⟨e, it, w1, w2, hgo⟩ := hgo (s.setGen g .running) (fun _ _ _ e => e) (fun b o e => (x.old b o e).2)
  have hroom : A.depth < recursionLimit := by have := R.depth; have : recursionLimit = 1000 := rfl; omega
  have nw : ∀ b o, ¬ wr b → s.heap.get? b = some o → ¬ gW L e it b := fun b o hb ho q => by
    rcases w2 b q with q | q
    · exact hb q
    · rw [show s.heap.get? b = none from q] at ho; cases ho
  refine next_gen (P := fun n s₀ s₁ => n = 0 ∧ GStep L e it s₀ s₁) (Y := gY fx its L e it) (n := 0) R.handled x.base.nolimit hroom x.obj hgs hgo (fun c s₁ gs' hb hy => ?_) (fun s₁ hp h' hk => ?_)
  · obtain ⟨item, y1, y2, y3, y4⟩ := hy
    exact (y4 s₁ (fun _ _ _ h => h) fun b o h => y2.keep b o (nw b o (x.old b o h).1 (x.old b o h).2) (x.old b o h).2).elim
  · obtain ⟨_, y2⟩ := hp
    exact ⟨rfl, fun b o hb h => hk b o (y2.keep b o (nw b o hb h) h), fun i z hi h => gens_other hi (y2.gens i z (gens_other hi h)), fun h => AllBare.set (y2.bare (AllBare.set h rfl)) rfl, y2.os⟩
theorem GSt.frame {wr : Addr → Prop} {n : Nat} (x : GSt fx A L I g its wr n s) (k : ∀ b o, wr b → s.heap.get? b = some o → s'.heap.get? b = some o) (k0 : ∀ b o, fx.h0.get? b = some o → s'.heap.get? b = some o) (kI : ∀ o, s.heap.get? I = some o → s'.heap.get? I = some o)
    (kg : ∀ z, s.gens[g]? = some z → s'.gens[g]? = some z) : GSt fx A L I g its wr n s' := by
  obtain ⟨o, nm, qn, ho, r⟩ := x.obj
  obtain ⟨gs, hgs, hgo⟩ := x.go
  exact ⟨x.b0, fun b o h => ⟨(x.old b o h).1, k0 b o h⟩, fun b q => let ⟨o, h⟩ := x.live b q; ⟨o, k b o q h⟩, x.notI, x.isL, ⟨o, nm, qn, kI o ho, r⟩, gs, kg _ hgs, fun s'' k' k0' => hgo s'' (fun b o q h => k' b o q (k b o q h)) k0'⟩
inductive GnSt (fx : Fix) (A : Around) (L I : Addr) (g : Nat) (its : List V) (wr : Addr → Prop) : (Nat → Prop) → List V → Shared → Prop
  | mk (vs : List V) (s : Shared) (n : Nat) : n ≤ its.length → its.drop (its.length - n) = vs → GSt fx A L I g its wr n s → GnSt fx A L I g its wr (· = g) vs s
theorem itr_gen {W : Addr → Prop} {h₂ : Heap} {target : Expr} (R : Room A 1) (hI : Rd W h₂ I) (h0 : ∀ b o, fx.h0.get? b = some o → Rd W h₂ b) :
    Itr fx A W h₂ I target (GnSt fx A L I g its) where
  live := fun st b q => match st with
    | .mk _ _ _ _ _ x => x.live b q
  frame := fun st hk hg => match st with
    | .mk _ _ n h1 h2 x => .mk _ _ n h1 h2 (x.frame (fun b o q h => hk b o (.inl q) h) (fun b o h => hk b o (.inr (h0 b o h)) (x.old b o h).2) (fun o h => hk I o (.inr hI) h) fun z h => hg g z rfl h)
  item := fun {wr gi v vs s U} st hu X₁ X₂ => match st with
    | .mk _ _ n h1 hw x => by
      refine wm (g_item (target := target) (U := U) R x h1 hw (fun b q => (hu b q).1) X₁ X₂) fun o s₁ h => ?_
      obtain ⟨c, rfl, h⟩ := h
      refine .mk c _ (wm h fun _ s₂ h => ?_)
      obtain ⟨wr', m, rfl, hr, hx, hd, hc⟩ := h
      exact .mk wr' hr (.mk _ _ m (by omega) hd hx) hc
  self := fun st q => match st with
    | .mk _ _ _ _ _ x => wpAny_pyIter_gen x.obj q
  done := fun {wr gi s} st X => match st with
    | .mk _ _ n h1 hw x => by
      have := left_zero h1 hw
      subst this
      exact g_stop R x X
end
end Mine
end
section
open PySem PySem.Calls PyProof.Rows PySem.W
set_option maxRecDepth 10000
namespace Mine
section
variable {fx : Fix}
theorem gen_room {A : Around} (R : Room A 1) {q : Nat → Pos} {genv : Env} : Room (A.in1.over (.func (gBody q) genv) []) 0 := by
  refine ⟨?_, ?_, R.handled⟩
  · have := R.depth; show A.depth + 0 + 1 + 0 ≤ 900; omega
  · have := R.units; show A.units + 1 + 0 + 3 + 20 * 0 ≤ 9000; omega
theorem gen_room2 {A : Around} (R : Room A 1) {q : Nat → Pos} {genv : Env} (e : Addr) (k : Result → Sem Fin) (g : Bool) (lv : List Value) (p : Pos) : Room (A.in1.over (gLoop q e genv) [.ret k none g lv (.func (gBody q) genv) p []]) 0 := by
  refine ⟨?_, ?_, R.handled⟩
  · have := R.depth; show A.depth + (1 + 0) + 0 + 0 ≤ 900; omega
  · have := R.units; show A.units + 1 + (3 + 0) + 0 + 20 * 0 ≤ 9000; omega
theorem gen_ok (Z : Stat fx) {a : Addr} (hm : fx.mg (nm "_iter_escaped_chars") = some (.ref a)) (G : GFn fx a) : GenOk fx := by
  obtain ⟨⟨o, fd, q, h1, h2, h3, h4, h5, h6, h7, h8, h9, h10, h11, h12⟩, hk⟩ := G
  refine ⟨a, hm, hk, fun {A W s s₀ l t target n X₁ X₂} R B x hl => ?_⟩
  have R1 : Room A 1 := R.le (by omega)
  have hroom : A.depth < recursionLimit := by have := R1.depth; have : recursionLimit = 1000 := rfl; omega
  refine wpAny_call (codeAny_call_generator (o := o) (fd := fd) (body := gBody q) hroom (B.base.X a o h1) h2 h6 h7 h3 (h12 _ B.base.X) ?_)
  rw [h11, h8]
  refine wpAny_pure (wpAny_newFunctionEnv ?_ ?_ ?_ h5)
  · rw [h4]; decide
  · intro y hy
    rw [List.mem_singleton.mp hy, h4]; rfl
  intro h' hns sb
  obtain ⟨sb1, sb2⟩ := sb
  have hsz : h'.objs.size = s.heap.objs.size + 1 := by rw [sb1, Heap.size_push]
  have kp : ∀ b o, s.heap.get? b = some o → h'.get? b = some o := fun b o e => (sb2 b (Nat.ne_of_lt (Heap.lt_size e))).trans (Heap.get?_push_of_some _ e)
  generalize hge : newEnv fd.scope s.heap.objs.size fd.globals [] (fd.qualname ++ ".<locals>.") (some a) fd.code none fd.builtins = genv
  have e1 : genv.scope = fd.scope := by rw [← hge]; rfl
  have e2 : genv.locals = s.heap.objs.size := by rw [← hge]; rfl
  have e3 : genv.globals = mainGlobals := by rw [← hge]; exact h9
  have e4 : genv.cells = [] := by rw [← hge]; rfl
  have e5 : genv.builtins = builtinsNs := by rw [← hge]; exact h10
  refine ⟨B.base.nolimit.keeps kp, ?_⟩
  generalize hgo : ({ cls := .type "generator", data := .fields #[.int s.gens.size 0, .str fd.name (s.toks + [(nm "addr", Value.str { cps := l.toArray } t)].length), .str fd.qualname (s.toks + [(nm "addr", Value.str { cps := l.toArray } t)].length + 1)] } : Obj) = go
  have kp2 : ∀ b o, s.heap.get? b = some o → (h'.push go).get? b = some o := fun b o e => Heap.get?_push_of_some _ (kp b o e)
  have hIo : (h'.push go).get? h'.objs.size = some go := Heap.get?_push_size _ (by rw [← hgo]; rfl)
  have fresh1 : s.heap.get? s.heap.objs.size = none := get?_size _
  have fresh2 : s.heap.get? h'.objs.size = none := by
    rw [hsz]
    cases y : s.heap.get? (s.heap.objs.size + 1) with
    | none => rfl
    | some o => exact absurd (Heap.lt_size y) (Nat.not_lt_of_le (Nat.le_succ _))
  have hgen : (h'.push go).IsGen h'.objs.size s.gens.size := ⟨go, _, _, hIo, by rw [← hgo], by rw [← hgo], by rw [← hgo]⟩
  refine wpAny_pyIter_gen hgen ?_
  have F : FR fx genv gCx (· = s.heap.objs.size) [] [(nm "addr", .val (.str l))] (h'.push go) := by
    refine ⟨by rw [e1]; exact h5, by rw [e1]; exact h4, by decide, e3, e5, ⟨B.b0, fun b o e => ⟨fun y => ?_, kp2 _ _ (B.old b o e).2⟩, fun b y => ?_⟩, ⟨_, by rw [e2]; exact hns.push _⟩, fun x c y => (by rw [e4] at y; cases y), fun x y => ?_, by rw [e4]; exact .nil, fun x c y => (by rw [e4] at y; cases y), fun b y => ?_, List.nodup_nil, fun p y => (by cases y), fun x b y => ?_⟩
    · rcases y with y | ⟨_, y⟩
      · subst y; have := (B.old _ o e).2; rw [fresh1] at this; cases this
      · cases y
    · rcases y with y | ⟨_, y⟩
      · subst y
        obtain ⟨o, _, _, ho, _⟩ := hns
        exact ⟨o, Heap.get?_push_of_some _ ho⟩
      · cases y
    · exfalso
      have : ∀ z ∈ gNames, z.2 ≠ NameKind.cell := by decide
      exact this _ (mem_of_lookup y) rfl
    · rcases y with y | ⟨_, y⟩
      · exact y.trans e2
      · rw [e4] at y; cases y
    · have hx := mem_of_lookup y
      simp only [List.mem_cons, List.not_mem_nil, or_false, Prod.mk.injEq] at hx
      obtain ⟨rfl, rfl⟩ := hx
      refine ⟨.str ⟨l.toArray⟩ t, .loc _ ?_ (by rw [e2]; exact hns.push _) (by simp), str_v⟩
      show genv.scope.names.lookup _ = _
      rw [e1, h4]; rfl
  have fr : Free (fx := fx) [(nm "addr", .val (.str l))] := fun x b h => by
    have hm := mem_of_lookup h
    simp only [List.mem_cons, List.not_mem_nil, or_false, Prod.mk.injEq] at hm
    obtain ⟨_, rfl⟩ := hm
    exact ⟨_, rfl, free_v (.inr (.inr ⟨_, rfl⟩))⟩
  have nW1 : ¬ W s.heap.objs.size := B.fresh fresh1
  have nW2 : ¬ W h'.objs.size := B.fresh fresh2
  have up : ∀ b, s.heap.get? b = none → s₀.heap.get? b = none := fun b y => by
    cases z : s₀.heap.get? b with
    | none => rfl
    | some o => rw [x.keep b o z] at y; cases y
  refine .mk _ h'.objs.size _ (· = s.heap.objs.size) (· = s.gens.size) (itr_gen (L := s.heap.objs.size) (g := s.gens.size) (its := escItems 0 false l) R1 ⟨nW2, _, hIo⟩ (fun b o e => ⟨(B.old b o e).1, o, kp2 b o (B.old b o e).2⟩)) ?_ ?_ (fun b y => by subst y; exact up _ fresh1) fun i y => ?_
  · refine .mk _ _ _ (Nat.le_refl _) (by rw [Nat.sub_self]; rfl) ⟨B.b0, fun b o e => ⟨fun y => ?_, kp2 b o (B.old b o e).2⟩, fun b y => ?_, fun y => ?_, rfl, hgen, .fresh (.func (gBody q) genv), Array.getElem?_push_size .., fun s' k k0 => ?_⟩
    · subst y; have := (B.old _ o e).2; rw [fresh1] at this; cases this
    · subst y
      obtain ⟨o, _, _, ho, _⟩ := hns
      exact ⟨o, Heap.get?_push_of_some _ ho⟩
    · have : h'.objs.size = s.heap.objs.size := y
      omega
    · have F' : FR fx genv gCx (· = s.heap.objs.size) [] [(nm "addr", .val (.str l))] s'.heap := g_back (s := { s with heap := h'.push go }) F fr e4 k k0
      refine ⟨s'.heap.objs.size + 1, s'.heap.objs.size, fun b y => .inl y, fun b y => ?_, rfl, ?_⟩
      · rcases y with y | y | y
        · exact .inl y
        · refine .inr ?_
          subst y
          cases z : s'.heap.get? (s'.heap.objs.size + 1) with
          | none => rfl
          | some o => exact absurd (Heap.lt_size z) (Nat.not_lt_of_le (Nat.le_succ _))
        · exact .inr (by subst y; exact get?_size _)
      · exact g_body Z (by rw [e1]; exact h6) e4 e2 (gen_room R1) (fun e k g lv p => gen_room2 R1 e k g lv p) F'
  · refine x.trans ⟨kp2, fun i z y => ?_, fun y => ?_, rfl⟩
    · have hlt := (Array.getElem?_eq_some_iff.mp y).1
      show (s.gens.push _)[i]? = some z
      rw [Array.getElem?_push_lt hlt]
      exact y ▸ (Array.getElem?_eq_getElem hlt).symm
    · intro z hz
      rcases Array.mem_push.mp hz with hz | hz
      · exact y z hz
      · subst hz; rfl
  · subst y
    cases z : s₀.gens[s.gens.size]? with
    | none => rfl
    | some w =>
      have := x.gens _ _ z
      simp at this
end
end Mine
end
section
open PySem PySem.Calls PyProof.Rows PySem.W
set_option maxRecDepth 100000
set_option maxHeartbeats 0
namespace Mine.H
noncomputable abbrev PR : Program := PySem.Challenge.pw_st0046_02
noncomputable def st (k : Nat) : Stmt := (behindTheImports PR).getD k (.Pass default)
noncomputable def fnOf : Stmt → Fn
  | .FunctionDef _ a b _ _ _ s _ _ _ => ⟨a, b, s⟩
  | _ => ⟨default, [], default⟩
noncomputable def clsBody : List Stmt := match st 10 with
  | .ClassDef _ _ _ b _ _ _ _ _ _ _ => b
  | _ => []
noncomputable def fnT (k : Nat) : Fn := fnOf (st k)
noncomputable def fnC (j : Nat) : Fn := fnOf (clsBody.getD j (.Pass default))
noncomputable def boot_life : Life := {}
noncomputable def benv : Env := { scope := PR.main.scope, locals := mainNs, globals := mainNs, cells := [], code := .ref 13, frame := some 14 }
noncomputable def bcode : Code := .body (behindTheImports PR) benv
noncomputable def tabOf : Stmt → List (Int × Str)
  | .Assign [.Name _ _] (.Dict ks vs _) _ => (ks.zip vs).filterMap fun p => match p with
    | (some (.Constant (.int i) _ _), .Constant (.str s) _ _) => some (i, s)
    | _ => Option.none
  | _ => []
noncomputable def tab : List (Int × Str) := tabOf (st 7)
noncomputable def entL (d : Nat) : Nat → List (Int × Str) → List DictEntry
  | _, [] => []
  | t, p :: r => ⟨p.1, .int p.1 t, .str p.2 (t + 1)⟩ :: entL d (t + d) r
noncomputable def subL (c : Nat) : List DictEntry := if c == 38 then entL 2 2225 (tab.drop (38 * 17)) else entL 3 (287 + 51 * c) ((tab.drop (17 * c)).take 17)
noncomputable def obB (i : Nat) (_ : Params) : Obj := if i == 54 then { cls := .type "dict", data := .dict ((List.range 39).flatMap subL).toArray 650 } else { cls := .type "dict", data := .dict (subL (i - 54)).toArray (subL (i - 54)).length }
/- written by HeadGen.lean -/
noncomputable def ob_11_pre (P : Params) : Obj :=
{ cls := Value.type "tuple", data := Data.seq #[] }
noncomputable def ob_12_pre (P : Params) : Obj :=
{ cls := Value.none, data := Data.fields #[] }
noncomputable def ob_13_pre (P : Params) : Obj :=
{ cls := Value.type "code",
  data := Data.fields #[Value.str (Str.ofString "<module>") 182, Value.str (Str.ofString "<module>") 183, Value.str (Str.ofString "/claim/cut.py") 184, Value.int 1 0, Value.int 0 0, Value.int 0 0, Value.int 0 0, Value.int 0 0, Value.ref 11, Value.bool false, Value.int 181 0, Value.ref 12, Value.none, Value.none, Value.none, Value.none, Value.int 185 0, Value.int 1 0, Value.str (Str.ofString "/claim/cut.py") 186] }
noncomputable def ob_14_pre (P : Params) : Obj :=
{ cls := Value.type "frame",
  slots := #[some (Value.ref 13), some (Value.ref 3), some (Value.ref 3), none, some (Value.str (Str.ofString "__main__") 164), none, some (Value.ref 0)] }
noncomputable def hp_pre (P : Params) : Heap := ⟨#[boot_o_0 P, boot_o_1 P, boot_o_2 P, boot_o_3 P, boot_o_4 P, boot_o_5 P, boot_o_6 P, boot_o_7 P, boot_o_8 P, boot_o_9 P, boot_o_10 P, ob_11_pre P, ob_12_pre P, ob_13_pre P, ob_14_pre P], boot_life⟩
noncomputable def ob_3_0 (P : Params) : Obj :=
{ cls := Value.type "dict",
  data := Data.dict #[{ hash := PyData.keyHash P (Str.ofString "__name__"), key := Value.str (Str.ofString "__name__") 165, val := Value.str (Str.ofString "__main__") 164 }, { hash := PyData.keyHash P (Str.ofString "__doc__"), key := Value.str (Str.ofString "__doc__") 166, val := Value.none }, { hash := PyData.keyHash P (Str.ofString "__package__"), key := Value.str (Str.ofString "__package__") 167, val := Value.none }, { hash := PyData.keyHash P (Str.ofString "__loader__"), key := Value.str (Str.ofString "__loader__") 168, val := Value.builtin "__main__.__loader__#opaque" }, { hash := PyData.keyHash P (Str.ofString "__spec__"), key := Value.str (Str.ofString "__spec__") 169, val := Value.none }, { hash := PyData.keyHash P (Str.ofString "__annotations__"), key := Value.str (Str.ofString "__annotations__") 170, val := Value.ref 6 }, { hash := PyData.keyHash P (Str.ofString "__builtins__"), key := Value.str (Str.ofString "__builtins__") 171, val := Value.ref 4 }, { hash := PyData.keyHash P (Str.ofString "__file__"), key := Value.str (Str.ofString "__file__") 173, val := Value.str (Str.ofString "/claim/cut.py") 172 }, { hash := PyData.keyHash P (Str.ofString "__cached__"), key := Value.str (Str.ofString "__cached__") 174, val := Value.none }, { hash := PyData.keyHash P (Str.ofString "_wall"), key := Value.str (Str.ofString "_wall") 193, val := Value.ref 21 }] 10 }
noncomputable def ob_12_0 (P : Params) : Obj :=
{ cls := Value.none, data := Data.fields #[Value.int 1 0, Value.int 0 0, Value.ref 20] }
noncomputable def ob_15_0 (P : Params) : Obj :=
{ cls := Value.type "tuple", data := Data.seq #[] }
noncomputable def ob_16_0 (P : Params) : Obj :=
{ cls := Value.none, data := Data.fields #[] }
noncomputable def ob_17_0 (P : Params) : Obj :=
{ cls := Value.type "tuple", data := Data.seq #[Value.str (Str.ofString "k") 190] }
noncomputable def ob_18_0 (P : Params) : Obj :=
{ cls := Value.type "tuple", data := Data.seq #[] }
noncomputable def ob_19_0 (P : Params) : Obj :=
{ cls := Value.none, dict := none, data := Data.func { name := Str.ofString "_wall", qualname := Str.ofString "_wall", params := (fnT 0).params, body := FuncBody.stmts (fnT 0).body, scope := (fnT 0).scope, globals := 0, closure := [], defaults := Value.none, kwdefaults := Value.none, doc := Value.none, pyModule := Value.none, annotations := none, code := Value.none, closureTuple := Value.none, builtins := 0 }, slots := #[] }
noncomputable def ob_20_0 (P : Params) : Obj :=
{ cls := Value.type "code",
  data := Data.fields #[Value.str (Str.ofString "_wall") 187, Value.str (Str.ofString "_wall") 188, Value.str (Str.ofString "/claim/cut.py") 189, Value.int 1 0, Value.int 1 0, Value.int 0 0, Value.int 0 0, Value.int 3 0, Value.ref 15, Value.bool true, Value.int 181 0, Value.ref 16, Value.none, Value.ref 17, Value.ref 18, Value.ref 19, Value.int 191 0, Value.int 1 0, Value.str (Str.ofString "/claim/cut.py") 192] }
noncomputable def ob_21_0 (P : Params) : Obj :=
{ cls := Value.type "function", dict := none, data := Data.func { name := Str.ofString "_wall", qualname := Str.ofString "_wall", params := (fnT 0).params, body := FuncBody.stmts (fnT 0).body, scope := (fnT 0).scope, globals := 3, closure := [], defaults := Value.none, kwdefaults := Value.none, doc := Value.none, pyModule := Value.str (Str.ofString "__main__") 164, annotations := none, code := Value.ref 20, closureTuple := Value.none, builtins := 0 }, slots := #[] }
noncomputable def hp_0 (P : Params) : Heap := ⟨#[boot_o_0 P, boot_o_1 P, boot_o_2 P, ob_3_0 P, boot_o_4 P, boot_o_5 P, boot_o_6 P, boot_o_7 P, boot_o_8 P, boot_o_9 P, boot_o_10 P, ob_11_pre P, ob_12_0 P, ob_13_pre P, ob_14_pre P, ob_15_0 P, ob_16_0 P, ob_17_0 P, ob_18_0 P, ob_19_0 P, ob_20_0 P, ob_21_0 P], boot_life⟩
noncomputable def ob_3_1 (P : Params) : Obj :=
{ cls := Value.type "dict",
  data := Data.dict #[{ hash := PyData.keyHash P (Str.ofString "__name__"), key := Value.str (Str.ofString "__name__") 165, val := Value.str (Str.ofString "cpy313.email.utils") 194 }, { hash := PyData.keyHash P (Str.ofString "__doc__"), key := Value.str (Str.ofString "__doc__") 166, val := Value.none }, { hash := PyData.keyHash P (Str.ofString "__package__"), key := Value.str (Str.ofString "__package__") 167, val := Value.none }, { hash := PyData.keyHash P (Str.ofString "__loader__"), key := Value.str (Str.ofString "__loader__") 168, val := Value.builtin "__main__.__loader__#opaque" }, { hash := PyData.keyHash P (Str.ofString "__spec__"), key := Value.str (Str.ofString "__spec__") 169, val := Value.none }, { hash := PyData.keyHash P (Str.ofString "__annotations__"), key := Value.str (Str.ofString "__annotations__") 170, val := Value.ref 6 }, { hash := PyData.keyHash P (Str.ofString "__builtins__"), key := Value.str (Str.ofString "__builtins__") 171, val := Value.ref 4 }, { hash := PyData.keyHash P (Str.ofString "__file__"), key := Value.str (Str.ofString "__file__") 173, val := Value.str (Str.ofString "/claim/cut.py") 172 }, { hash := PyData.keyHash P (Str.ofString "__cached__"), key := Value.str (Str.ofString "__cached__") 174, val := Value.none }, { hash := PyData.keyHash P (Str.ofString "_wall"), key := Value.str (Str.ofString "_wall") 193, val := Value.ref 21 }] 10 }
noncomputable def hp_1 (P : Params) : Heap := ⟨#[boot_o_0 P, boot_o_1 P, boot_o_2 P, ob_3_1 P, boot_o_4 P, boot_o_5 P, boot_o_6 P, boot_o_7 P, boot_o_8 P, boot_o_9 P, boot_o_10 P, ob_11_pre P, ob_12_0 P, ob_13_pre P, ob_14_pre P, ob_15_0 P, ob_16_0 P, ob_17_0 P, ob_18_0 P, ob_19_0 P, ob_20_0 P, ob_21_0 P], boot_life⟩
noncomputable def ob_3_2 (P : Params) : Obj :=
{ cls := Value.type "dict",
  data := Data.dict #[{ hash := PyData.keyHash P (Str.ofString "__name__"), key := Value.str (Str.ofString "__name__") 165, val := Value.str (Str.ofString "cpy313.email.utils") 194 }, { hash := PyData.keyHash P (Str.ofString "__doc__"), key := Value.str (Str.ofString "__doc__") 166, val := Value.none }, { hash := PyData.keyHash P (Str.ofString "__package__"), key := Value.str (Str.ofString "__package__") 167, val := Value.none }, { hash := PyData.keyHash P (Str.ofString "__loader__"), key := Value.str (Str.ofString "__loader__") 168, val := Value.builtin "__main__.__loader__#opaque" }, { hash := PyData.keyHash P (Str.ofString "__spec__"), key := Value.str (Str.ofString "__spec__") 169, val := Value.none }, { hash := PyData.keyHash P (Str.ofString "__annotations__"), key := Value.str (Str.ofString "__annotations__") 170, val := Value.ref 6 }, { hash := PyData.keyHash P (Str.ofString "__builtins__"), key := Value.str (Str.ofString "__builtins__") 171, val := Value.ref 4 }, { hash := PyData.keyHash P (Str.ofString "__file__"), key := Value.str (Str.ofString "__file__") 173, val := Value.str (Str.ofString "/claim/cut.py") 172 }, { hash := PyData.keyHash P (Str.ofString "__cached__"), key := Value.str (Str.ofString "__cached__") 174, val := Value.none }, { hash := PyData.keyHash P (Str.ofString "_wall"), key := Value.str (Str.ofString "_wall") 193, val := Value.ref 21 }, { hash := PyData.keyHash P (Str.ofString "_iter_escaped_chars"), key := Value.str (Str.ofString "_iter_escaped_chars") 205, val := Value.ref 28 }] 11 }
noncomputable def ob_12_2 (P : Params) : Obj :=
{ cls := Value.none,
  data := Data.fields #[Value.int 1 0, Value.int 0 0, Value.ref 20, Value.int 5 0, Value.int 0 0, Value.ref 27] }
noncomputable def ob_22_2 (P : Params) : Obj :=
{ cls := Value.type "tuple", data := Data.seq #[] }
noncomputable def ob_23_2 (P : Params) : Obj :=
{ cls := Value.none, data := Data.fields #[] }
noncomputable def ob_24_2 (P : Params) : Obj :=
{ cls := Value.type "tuple",
  data := Data.seq #[Value.str (Str.ofString "addr") 199, Value.str (Str.ofString "pos") 200, Value.str (Str.ofString "escape") 201, Value.str (Str.ofString "ch") 202] }
noncomputable def ob_25_2 (P : Params) : Obj :=
{ cls := Value.type "tuple", data := Data.seq #[] }
noncomputable def ob_26_2 (P : Params) : Obj :=
{ cls := Value.none, dict := none, data := Data.func { name := Str.ofString "_iter_escaped_chars", qualname := Str.ofString "_iter_escaped_chars", params := (fnT 2).params, body := FuncBody.stmts (fnT 2).body, scope := (fnT 2).scope, globals := 0, closure := [], defaults := Value.none, kwdefaults := Value.none, doc := Value.none, pyModule := Value.none, annotations := none, code := Value.none, closureTuple := Value.none, builtins := 0 }, slots := #[] }
noncomputable def ob_27_2 (P : Params) : Obj :=
{ cls := Value.type "code",
  data := Data.fields #[Value.str (Str.ofString "_iter_escaped_chars") 196, Value.str (Str.ofString "_iter_escaped_chars") 197, Value.str (Str.ofString "/claim/cut.py") 198, Value.int 5 0, Value.int 1 0, Value.int 0 0, Value.int 0 0, Value.int 35 0, Value.ref 22, Value.bool true, Value.int 181 0, Value.ref 23, Value.none, Value.ref 24, Value.ref 25, Value.ref 26, Value.int 203 0, Value.int 5 0, Value.str (Str.ofString "/claim/cut.py") 204] }
noncomputable def ob_28_2 (P : Params) : Obj :=
{ cls := Value.type "function", dict := none, data := Data.func { name := Str.ofString "_iter_escaped_chars", qualname := Str.ofString "_iter_escaped_chars", params := (fnT 2).params, body := FuncBody.stmts (fnT 2).body, scope := (fnT 2).scope, globals := 3, closure := [], defaults := Value.none, kwdefaults := Value.none, doc := Value.none, pyModule := Value.str (Str.ofString "cpy313.email.utils") 194, annotations := none, code := Value.ref 27, closureTuple := Value.none, builtins := 0 }, slots := #[] }
noncomputable def hp_2 (P : Params) : Heap := ⟨#[boot_o_0 P, boot_o_1 P, boot_o_2 P, ob_3_2 P, boot_o_4 P, boot_o_5 P, boot_o_6 P, boot_o_7 P, boot_o_8 P, boot_o_9 P, boot_o_10 P, ob_11_pre P, ob_12_2 P, ob_13_pre P, ob_14_pre P, ob_15_0 P, ob_16_0 P, ob_17_0 P, ob_18_0 P, ob_19_0 P, ob_20_0 P, ob_21_0 P, ob_22_2 P, ob_23_2 P, ob_24_2 P, ob_25_2 P, ob_26_2 P, ob_27_2 P, ob_28_2 P], boot_life⟩
noncomputable def ob_3_3 (P : Params) : Obj :=
{ cls := Value.type "dict",
  data := Data.dict #[{ hash := PyData.keyHash P (Str.ofString "__name__"), key := Value.str (Str.ofString "__name__") 165, val := Value.str (Str.ofString "cpy313.email.utils") 194 }, { hash := PyData.keyHash P (Str.ofString "__doc__"), key := Value.str (Str.ofString "__doc__") 166, val := Value.none }, { hash := PyData.keyHash P (Str.ofString "__package__"), key := Value.str (Str.ofString "__package__") 167, val := Value.none }, { hash := PyData.keyHash P (Str.ofString "__loader__"), key := Value.str (Str.ofString "__loader__") 168, val := Value.builtin "__main__.__loader__#opaque" }, { hash := PyData.keyHash P (Str.ofString "__spec__"), key := Value.str (Str.ofString "__spec__") 169, val := Value.none }, { hash := PyData.keyHash P (Str.ofString "__annotations__"), key := Value.str (Str.ofString "__annotations__") 170, val := Value.ref 6 }, { hash := PyData.keyHash P (Str.ofString "__builtins__"), key := Value.str (Str.ofString "__builtins__") 171, val := Value.ref 4 }, { hash := PyData.keyHash P (Str.ofString "__file__"), key := Value.str (Str.ofString "__file__") 173, val := Value.str (Str.ofString "/claim/cut.py") 172 }, { hash := PyData.keyHash P (Str.ofString "__cached__"), key := Value.str (Str.ofString "__cached__") 174, val := Value.none }, { hash := PyData.keyHash P (Str.ofString "_wall"), key := Value.str (Str.ofString "_wall") 193, val := Value.ref 21 }, { hash := PyData.keyHash P (Str.ofString "_iter_escaped_chars"), key := Value.str (Str.ofString "_iter_escaped_chars") 205, val := Value.ref 28 }, { hash := PyData.keyHash P (Str.ofString "_strip_quoted_realnames"), key := Value.str (Str.ofString "_strip_quoted_realnames") 217, val := Value.ref 35 }] 12 }
noncomputable def ob_12_3 (P : Params) : Obj :=
{ cls := Value.none,
  data := Data.fields #[Value.int 1 0, Value.int 0 0, Value.ref 20, Value.int 5 0, Value.int 0 0, Value.ref 27, Value.int 18 0, Value.int 0 0, Value.ref 34] }
noncomputable def ob_29_3 (P : Params) : Obj :=
{ cls := Value.type "tuple", data := Data.seq #[] }
noncomputable def ob_30_3 (P : Params) : Obj :=
{ cls := Value.none, data := Data.fields #[] }
noncomputable def ob_31_3 (P : Params) : Obj :=
{ cls := Value.type "tuple",
  data := Data.seq #[Value.str (Str.ofString "addr") 209, Value.str (Str.ofString "start") 210, Value.str (Str.ofString "open_pos") 211, Value.str (Str.ofString "result") 212, Value.str (Str.ofString "pos") 213, Value.str (Str.ofString "ch") 214] }
noncomputable def ob_32_3 (P : Params) : Obj :=
{ cls := Value.type "tuple", data := Data.seq #[] }
noncomputable def ob_33_3 (P : Params) : Obj :=
{ cls := Value.none, dict := none, data := Data.func { name := Str.ofString "_strip_quoted_realnames", qualname := Str.ofString "_strip_quoted_realnames", params := (fnT 3).params, body := FuncBody.stmts (fnT 3).body, scope := (fnT 3).scope, globals := 0, closure := [], defaults := Value.none, kwdefaults := Value.none, doc := Value.none, pyModule := Value.none, annotations := none, code := Value.none, closureTuple := Value.none, builtins := 0 }, slots := #[] }
noncomputable def ob_34_3 (P : Params) : Obj :=
{ cls := Value.type "code",
  data := Data.fields #[Value.str (Str.ofString "_strip_quoted_realnames") 206, Value.str (Str.ofString "_strip_quoted_realnames") 207, Value.str (Str.ofString "/claim/cut.py") 208, Value.int 18 0, Value.int 1 0, Value.int 0 0, Value.int 0 0, Value.int 3 0, Value.ref 29, Value.bool true, Value.int 181 0, Value.ref 30, Value.none, Value.ref 31, Value.ref 32, Value.ref 33, Value.int 215 0, Value.int 18 0, Value.str (Str.ofString "/claim/cut.py") 216] }
noncomputable def ob_35_3 (P : Params) : Obj :=
{ cls := Value.type "function", dict := none, data := Data.func { name := Str.ofString "_strip_quoted_realnames", qualname := Str.ofString "_strip_quoted_realnames", params := (fnT 3).params, body := FuncBody.stmts (fnT 3).body, scope := (fnT 3).scope, globals := 3, closure := [], defaults := Value.none, kwdefaults := Value.none, doc := Value.none, pyModule := Value.str (Str.ofString "cpy313.email.utils") 194, annotations := none, code := Value.ref 34, closureTuple := Value.none, builtins := 0 }, slots := #[] }
noncomputable def hp_3 (P : Params) : Heap := ⟨#[boot_o_0 P, boot_o_1 P, boot_o_2 P, ob_3_3 P, boot_o_4 P, boot_o_5 P, boot_o_6 P, boot_o_7 P, boot_o_8 P, boot_o_9 P, boot_o_10 P, ob_11_pre P, ob_12_3 P, ob_13_pre P, ob_14_pre P, ob_15_0 P, ob_16_0 P, ob_17_0 P, ob_18_0 P, ob_19_0 P, ob_20_0 P, ob_21_0 P, ob_22_2 P, ob_23_2 P, ob_24_2 P, ob_25_2 P, ob_26_2 P, ob_27_2 P, ob_28_2 P, ob_29_3 P, ob_30_3 P, ob_31_3 P, ob_32_3 P, ob_33_3 P, ob_34_3 P, ob_35_3 P], boot_life⟩
noncomputable def ob_3_4 (P : Params) : Obj :=
{ cls := Value.type "dict",
  data := Data.dict #[{ hash := PyData.keyHash P (Str.ofString "__name__"), key := Value.str (Str.ofString "__name__") 165, val := Value.str (Str.ofString "cpy313.stringprep") 218 }, { hash := PyData.keyHash P (Str.ofString "__doc__"), key := Value.str (Str.ofString "__doc__") 166, val := Value.none }, { hash := PyData.keyHash P (Str.ofString "__package__"), key := Value.str (Str.ofString "__package__") 167, val := Value.none }, { hash := PyData.keyHash P (Str.ofString "__loader__"), key := Value.str (Str.ofString "__loader__") 168, val := Value.builtin "__main__.__loader__#opaque" }, { hash := PyData.keyHash P (Str.ofString "__spec__"), key := Value.str (Str.ofString "__spec__") 169, val := Value.none }, { hash := PyData.keyHash P (Str.ofString "__annotations__"), key := Value.str (Str.ofString "__annotations__") 170, val := Value.ref 6 }, { hash := PyData.keyHash P (Str.ofString "__builtins__"), key := Value.str (Str.ofString "__builtins__") 171, val := Value.ref 4 }, { hash := PyData.keyHash P (Str.ofString "__file__"), key := Value.str (Str.ofString "__file__") 173, val := Value.str (Str.ofString "/claim/cut.py") 172 }, { hash := PyData.keyHash P (Str.ofString "__cached__"), key := Value.str (Str.ofString "__cached__") 174, val := Value.none }, { hash := PyData.keyHash P (Str.ofString "_wall"), key := Value.str (Str.ofString "_wall") 193, val := Value.ref 21 }, { hash := PyData.keyHash P (Str.ofString "_iter_escaped_chars"), key := Value.str (Str.ofString "_iter_escaped_chars") 205, val := Value.ref 28 }, { hash := PyData.keyHash P (Str.ofString "_strip_quoted_realnames"), key := Value.str (Str.ofString "_strip_quoted_realnames") 217, val := Value.ref 35 }] 12 }
noncomputable def hp_4 (P : Params) : Heap := ⟨#[boot_o_0 P, boot_o_1 P, boot_o_2 P, ob_3_4 P, boot_o_4 P, boot_o_5 P, boot_o_6 P, boot_o_7 P, boot_o_8 P, boot_o_9 P, boot_o_10 P, ob_11_pre P, ob_12_3 P, ob_13_pre P, ob_14_pre P, ob_15_0 P, ob_16_0 P, ob_17_0 P, ob_18_0 P, ob_19_0 P, ob_20_0 P, ob_21_0 P, ob_22_2 P, ob_23_2 P, ob_24_2 P, ob_25_2 P, ob_26_2 P, ob_27_2 P, ob_28_2 P, ob_29_3 P, ob_30_3 P, ob_31_3 P, ob_32_3 P, ob_33_3 P, ob_34_3 P, ob_35_3 P], boot_life⟩
noncomputable def ob_3_5 (P : Params) : Obj :=
{ cls := Value.type "dict",
  data := Data.dict #[{ hash := PyData.keyHash P (Str.ofString "__name__"), key := Value.str (Str.ofString "__name__") 165, val := Value.str (Str.ofString "cpy313.stringprep") 218 }, { hash := PyData.keyHash P (Str.ofString "__doc__"), key := Value.str (Str.ofString "__doc__") 166, val := Value.none }, { hash := PyData.keyHash P (Str.ofString "__package__"), key := Value.str (Str.ofString "__package__") 167, val := Value.none }, { hash := PyData.keyHash P (Str.ofString "__loader__"), key := Value.str (Str.ofString "__loader__") 168, val := Value.builtin "__main__.__loader__#opaque" }, { hash := PyData.keyHash P (Str.ofString "__spec__"), key := Value.str (Str.ofString "__spec__") 169, val := Value.none }, { hash := PyData.keyHash P (Str.ofString "__annotations__"), key := Value.str (Str.ofString "__annotations__") 170, val := Value.ref 6 }, { hash := PyData.keyHash P (Str.ofString "__builtins__"), key := Value.str (Str.ofString "__builtins__") 171, val := Value.ref 4 }, { hash := PyData.keyHash P (Str.ofString "__file__"), key := Value.str (Str.ofString "__file__") 173, val := Value.str (Str.ofString "/claim/cut.py") 172 }, { hash := PyData.keyHash P (Str.ofString "__cached__"), key := Value.str (Str.ofString "__cached__") 174, val := Value.none }, { hash := PyData.keyHash P (Str.ofString "_wall"), key := Value.str (Str.ofString "_wall") 193, val := Value.ref 21 }, { hash := PyData.keyHash P (Str.ofString "_iter_escaped_chars"), key := Value.str (Str.ofString "_iter_escaped_chars") 205, val := Value.ref 28 }, { hash := PyData.keyHash P (Str.ofString "_strip_quoted_realnames"), key := Value.str (Str.ofString "_strip_quoted_realnames") 217, val := Value.ref 35 }, { hash := PyData.keyHash P (Str.ofString "b1_set"), key := Value.str (Str.ofString "b1_set") 279, val := Value.ref 43 }] 13 }
noncomputable def ob_36_5 (P : Params) : Obj :=
{ cls := Value.type "list",
  data := Data.seq #[Value.int 173 220, Value.int 847 221, Value.int 6150 222, Value.int 6155 223, Value.int 6156 224, Value.int 6157 225, Value.int 8203 226, Value.int 8204 227, Value.int 8205 228, Value.int 8288 229, Value.int 65279 230] }
noncomputable def ob_37_5 (P : Params) : Obj :=
{ cls := Value.type "range", data := Data.fields #[Value.int 65024 231, Value.int 65040 232, Value.int 1 233] }
noncomputable def ob_38_5 (P : Params) : Obj :=
{ cls := Value.type "list",
  data := Data.seq #[Value.int 65024 236, Value.int 65025 237, Value.int 65026 238, Value.int 65027 239, Value.int 65028 240, Value.int 65029 241, Value.int 65030 242, Value.int 65031 243, Value.int 65032 244, Value.int 65033 245, Value.int 65034 246, Value.int 65035 247, Value.int 65036 248, Value.int 65037 249, Value.int 65038 250, Value.int 65039 251] 18 }
noncomputable def ob_39_5 (P : Params) : Obj :=
{ cls := Value.type "range_iterator", data := Data.fields #[Value.int 65040 0, Value.int 0 0, Value.int 1 0] }
noncomputable def ob_40_5 (P : Params) : Obj :=
{ cls := Value.type "tuple", data := Data.seq #[] }
noncomputable def ob_41_5 (P : Params) : Obj :=
{ cls := Value.type "StopIteration",
  data := Data.fields #[Value.ref 40, Value.none, Value.none, Value.none, Value.bool false, Value.none] }
noncomputable def ob_42_5 (P : Params) : Obj :=
{ cls := Value.type "list",
  data := Data.seq #[Value.int 173 220, Value.int 847 221, Value.int 6150 222, Value.int 6155 223, Value.int 6156 224, Value.int 6157 225, Value.int 8203 226, Value.int 8204 227, Value.int 8205 228, Value.int 8288 229, Value.int 65279 230, Value.int 65024 236, Value.int 65025 237, Value.int 65026 238, Value.int 65027 239, Value.int 65028 240, Value.int 65029 241, Value.int 65030 242, Value.int 65031 243, Value.int 65032 244, Value.int 65033 245, Value.int 65034 246, Value.int 65035 247, Value.int 65036 248, Value.int 65037 249, Value.int 65038 250, Value.int 65039 251] }
noncomputable def ob_43_5 (P : Params) : Obj :=
{ cls := Value.type "set",
  data := Data.set #[(65024, Value.int 65024 236), (65025, Value.int 65025 237), (65026, Value.int 65026 238), (65027, Value.int 65027 239), (65028, Value.int 65028 240), (65029, Value.int 65029 241), (6150, Value.int 6150 222), (65030, Value.int 65030 242), (65031, Value.int 65031 243), (65032, Value.int 65032 244), (65033, Value.int 65033 245), (6155, Value.int 6155 223), (6156, Value.int 6156 224), (6157, Value.int 6157 225), (8203, Value.int 8203 226), (8204, Value.int 8204 227), (8205, Value.int 8205 228), (65034, Value.int 65034 246), (65035, Value.int 65035 247), (65036, Value.int 65036 248), (65037, Value.int 65037 249), (65038, Value.int 65038 250), (65039, Value.int 65039 251), (173, Value.int 173 220), (847, Value.int 847 221), (8288, Value.int 8288 229), (65279, Value.int 65279 230)] 29 { mask := 127, place := #[0, 1, 2, 3, 4, 5, 6, 7, 8, 9, 10, 11, 12, 13, 14, 15, 16, 17, 18, 19, 20, 21, 22, 45, 79, 96, 127], dummies := #[], finger := 0, led := !P.followText "set-order", moves := 2, plain := true } }
noncomputable def ob_44_5 (P : Params) : Obj :=
{ cls := Value.type "list_iterator", data := Data.fields #[Value.none, Value.int 27 0] }
noncomputable def ob_45_5 (P : Params) : Obj :=
{ cls := Value.type "tuple", data := Data.seq #[] }
noncomputable def ob_46_5 (P : Params) : Obj :=
{ cls := Value.type "StopIteration",
  data := Data.fields #[Value.ref 45, Value.none, Value.none, Value.none, Value.bool false, Value.none] }
noncomputable def hp_5 (P : Params) : Heap := ⟨#[boot_o_0 P, boot_o_1 P, boot_o_2 P, ob_3_5 P, boot_o_4 P, boot_o_5 P, boot_o_6 P, boot_o_7 P, boot_o_8 P, boot_o_9 P, boot_o_10 P, ob_11_pre P, ob_12_3 P, ob_13_pre P, ob_14_pre P, ob_15_0 P, ob_16_0 P, ob_17_0 P, ob_18_0 P, ob_19_0 P, ob_20_0 P, ob_21_0 P, ob_22_2 P, ob_23_2 P, ob_24_2 P, ob_25_2 P, ob_26_2 P, ob_27_2 P, ob_28_2 P, ob_29_3 P, ob_30_3 P, ob_31_3 P, ob_32_3 P, ob_33_3 P, ob_34_3 P, ob_35_3 P, ob_36_5 P, ob_37_5 P, ob_38_5 P, ob_39_5 P, ob_40_5 P, ob_41_5 P, ob_42_5 P, ob_43_5 P, ob_44_5 P, ob_45_5 P, ob_46_5 P], boot_life⟩
noncomputable def ob_3_6 (P : Params) : Obj :=
{ cls := Value.type "dict",
  data := Data.dict #[{ hash := PyData.keyHash P (Str.ofString "__name__"), key := Value.str (Str.ofString "__name__") 165, val := Value.str (Str.ofString "cpy313.stringprep") 218 }, { hash := PyData.keyHash P (Str.ofString "__doc__"), key := Value.str (Str.ofString "__doc__") 166, val := Value.none }, { hash := PyData.keyHash P (Str.ofString "__package__"), key := Value.str (Str.ofString "__package__") 167, val := Value.none }, { hash := PyData.keyHash P (Str.ofString "__loader__"), key := Value.str (Str.ofString "__loader__") 168, val := Value.builtin "__main__.__loader__#opaque" }, { hash := PyData.keyHash P (Str.ofString "__spec__"), key := Value.str (Str.ofString "__spec__") 169, val := Value.none }, { hash := PyData.keyHash P (Str.ofString "__annotations__"), key := Value.str (Str.ofString "__annotations__") 170, val := Value.ref 6 }, { hash := PyData.keyHash P (Str.ofString "__builtins__"), key := Value.str (Str.ofString "__builtins__") 171, val := Value.ref 4 }, { hash := PyData.keyHash P (Str.ofString "__file__"), key := Value.str (Str.ofString "__file__") 173, val := Value.str (Str.ofString "/claim/cut.py") 172 }, { hash := PyData.keyHash P (Str.ofString "__cached__"), key := Value.str (Str.ofString "__cached__") 174, val := Value.none }, { hash := PyData.keyHash P (Str.ofString "_wall"), key := Value.str (Str.ofString "_wall") 193, val := Value.ref 21 }, { hash := PyData.keyHash P (Str.ofString "_iter_escaped_chars"), key := Value.str (Str.ofString "_iter_escaped_chars") 205, val := Value.ref 28 }, { hash := PyData.keyHash P (Str.ofString "_strip_quoted_realnames"), key := Value.str (Str.ofString "_strip_quoted_realnames") 217, val := Value.ref 35 }, { hash := PyData.keyHash P (Str.ofString "b1_set"), key := Value.str (Str.ofString "b1_set") 279, val := Value.ref 43 }, { hash := PyData.keyHash P (Str.ofString "in_table_b1"), key := Value.str (Str.ofString "in_table_b1") 286, val := Value.ref 53 }] 14 }
noncomputable def ob_12_6 (P : Params) : Obj :=
{ cls := Value.none,
  data := Data.fields #[Value.int 1 0, Value.int 0 0, Value.ref 20, Value.int 5 0, Value.int 0 0, Value.ref 27, Value.int 18 0, Value.int 0 0, Value.ref 34, Value.int 38 0, Value.int 0 0, Value.ref 52] }
noncomputable def ob_47_6 (P : Params) : Obj :=
{ cls := Value.type "tuple", data := Data.seq #[] }
noncomputable def ob_48_6 (P : Params) : Obj :=
{ cls := Value.none, data := Data.fields #[] }
noncomputable def ob_49_6 (P : Params) : Obj :=
{ cls := Value.type "tuple", data := Data.seq #[Value.str (Str.ofString "code") 283] }
noncomputable def ob_50_6 (P : Params) : Obj :=
{ cls := Value.type "tuple", data := Data.seq #[] }
noncomputable def ob_51_6 (P : Params) : Obj :=
{ cls := Value.none, dict := none, data := Data.func { name := Str.ofString "in_table_b1", qualname := Str.ofString "in_table_b1", params := (fnT 6).params, body := FuncBody.stmts (fnT 6).body, scope := (fnT 6).scope, globals := 0, closure := [], defaults := Value.none, kwdefaults := Value.none, doc := Value.none, pyModule := Value.none, annotations := none, code := Value.none, closureTuple := Value.none, builtins := 0 }, slots := #[] }
noncomputable def ob_52_6 (P : Params) : Obj :=
{ cls := Value.type "code",
  data := Data.fields #[Value.str (Str.ofString "in_table_b1") 280, Value.str (Str.ofString "in_table_b1") 281, Value.str (Str.ofString "/claim/cut.py") 282, Value.int 38 0, Value.int 1 0, Value.int 0 0, Value.int 0 0, Value.int 3 0, Value.ref 47, Value.bool true, Value.int 181 0, Value.ref 48, Value.none, Value.ref 49, Value.ref 50, Value.ref 51, Value.int 284 0, Value.int 38 0, Value.str (Str.ofString "/claim/cut.py") 285] }
noncomputable def ob_53_6 (P : Params) : Obj :=
{ cls := Value.type "function", dict := none, data := Data.func { name := Str.ofString "in_table_b1", qualname := Str.ofString "in_table_b1", params := (fnT 6).params, body := FuncBody.stmts (fnT 6).body, scope := (fnT 6).scope, globals := 3, closure := [], defaults := Value.none, kwdefaults := Value.none, doc := Value.none, pyModule := Value.str (Str.ofString "cpy313.stringprep") 218, annotations := none, code := Value.ref 52, closureTuple := Value.none, builtins := 0 }, slots := #[] }
noncomputable def hp_6 (P : Params) : Heap := ⟨#[boot_o_0 P, boot_o_1 P, boot_o_2 P, ob_3_6 P, boot_o_4 P, boot_o_5 P, boot_o_6 P, boot_o_7 P, boot_o_8 P, boot_o_9 P, boot_o_10 P, ob_11_pre P, ob_12_6 P, ob_13_pre P, ob_14_pre P, ob_15_0 P, ob_16_0 P, ob_17_0 P, ob_18_0 P, ob_19_0 P, ob_20_0 P, ob_21_0 P, ob_22_2 P, ob_23_2 P, ob_24_2 P, ob_25_2 P, ob_26_2 P, ob_27_2 P, ob_28_2 P, ob_29_3 P, ob_30_3 P, ob_31_3 P, ob_32_3 P, ob_33_3 P, ob_34_3 P, ob_35_3 P, ob_36_5 P, ob_37_5 P, ob_38_5 P, ob_39_5 P, ob_40_5 P, ob_41_5 P, ob_42_5 P, ob_43_5 P, ob_44_5 P, ob_45_5 P, ob_46_5 P, ob_47_6 P, ob_48_6 P, ob_49_6 P, ob_50_6 P, ob_51_6 P, ob_52_6 P, ob_53_6 P], boot_life⟩
noncomputable def ob_3_7 (P : Params) : Obj :=
{ cls := Value.type "dict",
  data := Data.dict #[{ hash := PyData.keyHash P (Str.ofString "__name__"), key := Value.str (Str.ofString "__name__") 165, val := Value.str (Str.ofString "cpy313.stringprep") 218 }, { hash := PyData.keyHash P (Str.ofString "__doc__"), key := Value.str (Str.ofString "__doc__") 166, val := Value.none }, { hash := PyData.keyHash P (Str.ofString "__package__"), key := Value.str (Str.ofString "__package__") 167, val := Value.none }, { hash := PyData.keyHash P (Str.ofString "__loader__"), key := Value.str (Str.ofString "__loader__") 168, val := Value.builtin "__main__.__loader__#opaque" }, { hash := PyData.keyHash P (Str.ofString "__spec__"), key := Value.str (Str.ofString "__spec__") 169, val := Value.none }, { hash := PyData.keyHash P (Str.ofString "__annotations__"), key := Value.str (Str.ofString "__annotations__") 170, val := Value.ref 6 }, { hash := PyData.keyHash P (Str.ofString "__builtins__"), key := Value.str (Str.ofString "__builtins__") 171, val := Value.ref 4 }, { hash := PyData.keyHash P (Str.ofString "__file__"), key := Value.str (Str.ofString "__file__") 173, val := Value.str (Str.ofString "/claim/cut.py") 172 }, { hash := PyData.keyHash P (Str.ofString "__cached__"), key := Value.str (Str.ofString "__cached__") 174, val := Value.none }, { hash := PyData.keyHash P (Str.ofString "_wall"), key := Value.str (Str.ofString "_wall") 193, val := Value.ref 21 }, { hash := PyData.keyHash P (Str.ofString "_iter_escaped_chars"), key := Value.str (Str.ofString "_iter_escaped_chars") 205, val := Value.ref 28 }, { hash := PyData.keyHash P (Str.ofString "_strip_quoted_realnames"), key := Value.str (Str.ofString "_strip_quoted_realnames") 217, val := Value.ref 35 }, { hash := PyData.keyHash P (Str.ofString "b1_set"), key := Value.str (Str.ofString "b1_set") 279, val := Value.ref 43 }, { hash := PyData.keyHash P (Str.ofString "in_table_b1"), key := Value.str (Str.ofString "in_table_b1") 286, val := Value.ref 53 }, { hash := PyData.keyHash P (Str.ofString "b3_exceptions"), key := Value.str (Str.ofString "b3_exceptions") 2237, val := Value.ref 54 }] 15 }
noncomputable def hp_7 (P : Params) : Heap := ⟨#[boot_o_0 P, boot_o_1 P, boot_o_2 P, ob_3_7 P, boot_o_4 P, boot_o_5 P, boot_o_6 P, boot_o_7 P, boot_o_8 P, boot_o_9 P, boot_o_10 P, ob_11_pre P, ob_12_6 P, ob_13_pre P, ob_14_pre P, ob_15_0 P, ob_16_0 P, ob_17_0 P, ob_18_0 P, ob_19_0 P, ob_20_0 P, ob_21_0 P, ob_22_2 P, ob_23_2 P, ob_24_2 P, ob_25_2 P, ob_26_2 P, ob_27_2 P, ob_28_2 P, ob_29_3 P, ob_30_3 P, ob_31_3 P, ob_32_3 P, ob_33_3 P, ob_34_3 P, ob_35_3 P, ob_36_5 P, ob_37_5 P, ob_38_5 P, ob_39_5 P, ob_40_5 P, ob_41_5 P, ob_42_5 P, ob_43_5 P, ob_44_5 P, ob_45_5 P, ob_46_5 P, ob_47_6 P, ob_48_6 P, ob_49_6 P, ob_50_6 P, ob_51_6 P, ob_52_6 P, ob_53_6 P, obB 54 P, obB 55 P, obB 56 P, obB 57 P, obB 58 P, obB 59 P, obB 60 P, obB 61 P, obB 62 P, obB 63 P, obB 64 P, obB 65 P, obB 66 P, obB 67 P, obB 68 P, obB 69 P, obB 70 P, obB 71 P, obB 72 P, obB 73 P, obB 74 P, obB 75 P, obB 76 P, obB 77 P, obB 78 P, obB 79 P, obB 80 P, obB 81 P, obB 82 P, obB 83 P, obB 84 P, obB 85 P, obB 86 P, obB 87 P, obB 88 P, obB 89 P, obB 90 P, obB 91 P, obB 92 P], boot_life⟩
noncomputable def ob_3_8 (P : Params) : Obj :=
{ cls := Value.type "dict",
  data := Data.dict #[{ hash := PyData.keyHash P (Str.ofString "__name__"), key := Value.str (Str.ofString "__name__") 165, val := Value.str (Str.ofString "cpy313.stringprep") 218 }, { hash := PyData.keyHash P (Str.ofString "__doc__"), key := Value.str (Str.ofString "__doc__") 166, val := Value.none }, { hash := PyData.keyHash P (Str.ofString "__package__"), key := Value.str (Str.ofString "__package__") 167, val := Value.none }, { hash := PyData.keyHash P (Str.ofString "__loader__"), key := Value.str (Str.ofString "__loader__") 168, val := Value.builtin "__main__.__loader__#opaque" }, { hash := PyData.keyHash P (Str.ofString "__spec__"), key := Value.str (Str.ofString "__spec__") 169, val := Value.none }, { hash := PyData.keyHash P (Str.ofString "__annotations__"), key := Value.str (Str.ofString "__annotations__") 170, val := Value.ref 6 }, { hash := PyData.keyHash P (Str.ofString "__builtins__"), key := Value.str (Str.ofString "__builtins__") 171, val := Value.ref 4 }, { hash := PyData.keyHash P (Str.ofString "__file__"), key := Value.str (Str.ofString "__file__") 173, val := Value.str (Str.ofString "/claim/cut.py") 172 }, { hash := PyData.keyHash P (Str.ofString "__cached__"), key := Value.str (Str.ofString "__cached__") 174, val := Value.none }, { hash := PyData.keyHash P (Str.ofString "_wall"), key := Value.str (Str.ofString "_wall") 193, val := Value.ref 21 }, { hash := PyData.keyHash P (Str.ofString "_iter_escaped_chars"), key := Value.str (Str.ofString "_iter_escaped_chars") 205, val := Value.ref 28 }, { hash := PyData.keyHash P (Str.ofString "_strip_quoted_realnames"), key := Value.str (Str.ofString "_strip_quoted_realnames") 217, val := Value.ref 35 }, { hash := PyData.keyHash P (Str.ofString "b1_set"), key := Value.str (Str.ofString "b1_set") 279, val := Value.ref 43 }, { hash := PyData.keyHash P (Str.ofString "in_table_b1"), key := Value.str (Str.ofString "in_table_b1") 286, val := Value.ref 53 }, { hash := PyData.keyHash P (Str.ofString "b3_exceptions"), key := Value.str (Str.ofString "b3_exceptions") 2237, val := Value.ref 54 }, { hash := PyData.keyHash P (Str.ofString "map_table_b3"), key := Value.str (Str.ofString "map_table_b3") 2245, val := Value.ref 99 }] 16 }
noncomputable def ob_12_8 (P : Params) : Obj :=
{ cls := Value.none,
  data := Data.fields #[Value.int 1 0, Value.int 0 0, Value.ref 20, Value.int 5 0, Value.int 0 0, Value.ref 27, Value.int 18 0, Value.int 0 0, Value.ref 34, Value.int 38 0, Value.int 0 0, Value.ref 52, Value.int 41 0, Value.int 0 0, Value.ref 98] }
noncomputable def ob_93_8 (P : Params) : Obj :=
{ cls := Value.type "tuple", data := Data.seq #[] }
noncomputable def ob_94_8 (P : Params) : Obj :=
{ cls := Value.none, data := Data.fields #[] }
noncomputable def ob_95_8 (P : Params) : Obj :=
{ cls := Value.type "tuple",
  data := Data.seq #[Value.str (Str.ofString "code") 2241, Value.str (Str.ofString "r") 2242] }
noncomputable def ob_96_8 (P : Params) : Obj :=
{ cls := Value.type "tuple", data := Data.seq #[] }
noncomputable def ob_97_8 (P : Params) : Obj :=
{ cls := Value.none, dict := none, data := Data.func { name := Str.ofString "map_table_b3", qualname := Str.ofString "map_table_b3", params := (fnT 8).params, body := FuncBody.stmts (fnT 8).body, scope := (fnT 8).scope, globals := 0, closure := [], defaults := Value.none, kwdefaults := Value.none, doc := Value.none, pyModule := Value.none, annotations := none, code := Value.none, closureTuple := Value.none, builtins := 0 }, slots := #[] }
noncomputable def ob_98_8 (P : Params) : Obj :=
{ cls := Value.type "code",
  data := Data.fields #[Value.str (Str.ofString "map_table_b3") 2238, Value.str (Str.ofString "map_table_b3") 2239, Value.str (Str.ofString "/claim/cut.py") 2240, Value.int 41 0, Value.int 1 0, Value.int 0 0, Value.int 0 0, Value.int 3 0, Value.ref 93, Value.bool true, Value.int 181 0, Value.ref 94, Value.none, Value.ref 95, Value.ref 96, Value.ref 97, Value.int 2243 0, Value.int 41 0, Value.str (Str.ofString "/claim/cut.py") 2244] }
noncomputable def ob_99_8 (P : Params) : Obj :=
{ cls := Value.type "function", dict := none, data := Data.func { name := Str.ofString "map_table_b3", qualname := Str.ofString "map_table_b3", params := (fnT 8).params, body := FuncBody.stmts (fnT 8).body, scope := (fnT 8).scope, globals := 3, closure := [], defaults := Value.none, kwdefaults := Value.none, doc := Value.none, pyModule := Value.str (Str.ofString "cpy313.stringprep") 218, annotations := none, code := Value.ref 98, closureTuple := Value.none, builtins := 0 }, slots := #[] }
noncomputable def hp_8 (P : Params) : Heap := ⟨#[boot_o_0 P, boot_o_1 P, boot_o_2 P, ob_3_8 P, boot_o_4 P, boot_o_5 P, boot_o_6 P, boot_o_7 P, boot_o_8 P, boot_o_9 P, boot_o_10 P, ob_11_pre P, ob_12_8 P, ob_13_pre P, ob_14_pre P, ob_15_0 P, ob_16_0 P, ob_17_0 P, ob_18_0 P, ob_19_0 P, ob_20_0 P, ob_21_0 P, ob_22_2 P, ob_23_2 P, ob_24_2 P, ob_25_2 P, ob_26_2 P, ob_27_2 P, ob_28_2 P, ob_29_3 P, ob_30_3 P, ob_31_3 P, ob_32_3 P, ob_33_3 P, ob_34_3 P, ob_35_3 P, ob_36_5 P, ob_37_5 P, ob_38_5 P, ob_39_5 P, ob_40_5 P, ob_41_5 P, ob_42_5 P, ob_43_5 P, ob_44_5 P, ob_45_5 P, ob_46_5 P, ob_47_6 P, ob_48_6 P, ob_49_6 P, ob_50_6 P, ob_51_6 P, ob_52_6 P, ob_53_6 P, obB 54 P, obB 55 P, obB 56 P, obB 57 P, obB 58 P, obB 59 P, obB 60 P, obB 61 P, obB 62 P, obB 63 P, obB 64 P, obB 65 P, obB 66 P, obB 67 P, obB 68 P, obB 69 P, obB 70 P, obB 71 P, obB 72 P, obB 73 P, obB 74 P, obB 75 P, obB 76 P, obB 77 P, obB 78 P, obB 79 P, obB 80 P, obB 81 P, obB 82 P, obB 83 P, obB 84 P, obB 85 P, obB 86 P, obB 87 P, obB 88 P, obB 89 P, obB 90 P, obB 91 P, obB 92 P, ob_93_8 P, ob_94_8 P, ob_95_8 P, ob_96_8 P, ob_97_8 P, ob_98_8 P, ob_99_8 P], boot_life⟩
noncomputable def ob_3_9 (P : Params) : Obj :=
{ cls := Value.type "dict",
  data := Data.dict #[{ hash := PyData.keyHash P (Str.ofString "__name__"), key := Value.str (Str.ofString "__name__") 165, val := Value.str (Str.ofString "cpy313.tabnanny") 2246 }, { hash := PyData.keyHash P (Str.ofString "__doc__"), key := Value.str (Str.ofString "__doc__") 166, val := Value.none }, { hash := PyData.keyHash P (Str.ofString "__package__"), key := Value.str (Str.ofString "__package__") 167, val := Value.none }, { hash := PyData.keyHash P (Str.ofString "__loader__"), key := Value.str (Str.ofString "__loader__") 168, val := Value.builtin "__main__.__loader__#opaque" }, { hash := PyData.keyHash P (Str.ofString "__spec__"), key := Value.str (Str.ofString "__spec__") 169, val := Value.none }, { hash := PyData.keyHash P (Str.ofString "__annotations__"), key := Value.str (Str.ofString "__annotations__") 170, val := Value.ref 6 }, { hash := PyData.keyHash P (Str.ofString "__builtins__"), key := Value.str (Str.ofString "__builtins__") 171, val := Value.ref 4 }, { hash := PyData.keyHash P (Str.ofString "__file__"), key := Value.str (Str.ofString "__file__") 173, val := Value.str (Str.ofString "/claim/cut.py") 172 }, { hash := PyData.keyHash P (Str.ofString "__cached__"), key := Value.str (Str.ofString "__cached__") 174, val := Value.none }, { hash := PyData.keyHash P (Str.ofString "_wall"), key := Value.str (Str.ofString "_wall") 193, val := Value.ref 21 }, { hash := PyData.keyHash P (Str.ofString "_iter_escaped_chars"), key := Value.str (Str.ofString "_iter_escaped_chars") 205, val := Value.ref 28 }, { hash := PyData.keyHash P (Str.ofString "_strip_quoted_realnames"), key := Value.str (Str.ofString "_strip_quoted_realnames") 217, val := Value.ref 35 }, { hash := PyData.keyHash P (Str.ofString "b1_set"), key := Value.str (Str.ofString "b1_set") 279, val := Value.ref 43 }, { hash := PyData.keyHash P (Str.ofString "in_table_b1"), key := Value.str (Str.ofString "in_table_b1") 286, val := Value.ref 53 }, { hash := PyData.keyHash P (Str.ofString "b3_exceptions"), key := Value.str (Str.ofString "b3_exceptions") 2237, val := Value.ref 54 }, { hash := PyData.keyHash P (Str.ofString "map_table_b3"), key := Value.str (Str.ofString "map_table_b3") 2245, val := Value.ref 99 }] 16 }
noncomputable def hp_9 (P : Params) : Heap := ⟨#[boot_o_0 P, boot_o_1 P, boot_o_2 P, ob_3_9 P, boot_o_4 P, boot_o_5 P, boot_o_6 P, boot_o_7 P, boot_o_8 P, boot_o_9 P, boot_o_10 P, ob_11_pre P, ob_12_8 P, ob_13_pre P, ob_14_pre P, ob_15_0 P, ob_16_0 P, ob_17_0 P, ob_18_0 P, ob_19_0 P, ob_20_0 P, ob_21_0 P, ob_22_2 P, ob_23_2 P, ob_24_2 P, ob_25_2 P, ob_26_2 P, ob_27_2 P, ob_28_2 P, ob_29_3 P, ob_30_3 P, ob_31_3 P, ob_32_3 P, ob_33_3 P, ob_34_3 P, ob_35_3 P, ob_36_5 P, ob_37_5 P, ob_38_5 P, ob_39_5 P, ob_40_5 P, ob_41_5 P, ob_42_5 P, ob_43_5 P, ob_44_5 P, ob_45_5 P, ob_46_5 P, ob_47_6 P, ob_48_6 P, ob_49_6 P, ob_50_6 P, ob_51_6 P, ob_52_6 P, ob_53_6 P, obB 54 P, obB 55 P, obB 56 P, obB 57 P, obB 58 P, obB 59 P, obB 60 P, obB 61 P, obB 62 P, obB 63 P, obB 64 P, obB 65 P, obB 66 P, obB 67 P, obB 68 P, obB 69 P, obB 70 P, obB 71 P, obB 72 P, obB 73 P, obB 74 P, obB 75 P, obB 76 P, obB 77 P, obB 78 P, obB 79 P, obB 80 P, obB 81 P, obB 82 P, obB 83 P, obB 84 P, obB 85 P, obB 86 P, obB 87 P, obB 88 P, obB 89 P, obB 90 P, obB 91 P, obB 92 P, ob_93_8 P, ob_94_8 P, ob_95_8 P, ob_96_8 P, ob_97_8 P, ob_98_8 P, ob_99_8 P], boot_life⟩
noncomputable def ob_3_10 (P : Params) : Obj :=
{ cls := Value.type "dict",
  data := Data.dict #[{ hash := PyData.keyHash P (Str.ofString "__name__"), key := Value.str (Str.ofString "__name__") 165, val := Value.str (Str.ofString "cpy313.tabnanny") 2246 }, { hash := PyData.keyHash P (Str.ofString "__doc__"), key := Value.str (Str.ofString "__doc__") 166, val := Value.none }, { hash := PyData.keyHash P (Str.ofString "__package__"), key := Value.str (Str.ofString "__package__") 167, val := Value.none }, { hash := PyData.keyHash P (Str.ofString "__loader__"), key := Value.str (Str.ofString "__loader__") 168, val := Value.builtin "__main__.__loader__#opaque" }, { hash := PyData.keyHash P (Str.ofString "__spec__"), key := Value.str (Str.ofString "__spec__") 169, val := Value.none }, { hash := PyData.keyHash P (Str.ofString "__annotations__"), key := Value.str (Str.ofString "__annotations__") 170, val := Value.ref 6 }, { hash := PyData.keyHash P (Str.ofString "__builtins__"), key := Value.str (Str.ofString "__builtins__") 171, val := Value.ref 4 }, { hash := PyData.keyHash P (Str.ofString "__file__"), key := Value.str (Str.ofString "__file__") 173, val := Value.str (Str.ofString "/claim/cut.py") 172 }, { hash := PyData.keyHash P (Str.ofString "__cached__"), key := Value.str (Str.ofString "__cached__") 174, val := Value.none }, { hash := PyData.keyHash P (Str.ofString "_wall"), key := Value.str (Str.ofString "_wall") 193, val := Value.ref 21 }, { hash := PyData.keyHash P (Str.ofString "_iter_escaped_chars"), key := Value.str (Str.ofString "_iter_escaped_chars") 205, val := Value.ref 28 }, { hash := PyData.keyHash P (Str.ofString "_strip_quoted_realnames"), key := Value.str (Str.ofString "_strip_quoted_realnames") 217, val := Value.ref 35 }, { hash := PyData.keyHash P (Str.ofString "b1_set"), key := Value.str (Str.ofString "b1_set") 279, val := Value.ref 43 }, { hash := PyData.keyHash P (Str.ofString "in_table_b1"), key := Value.str (Str.ofString "in_table_b1") 286, val := Value.ref 53 }, { hash := PyData.keyHash P (Str.ofString "b3_exceptions"), key := Value.str (Str.ofString "b3_exceptions") 2237, val := Value.ref 54 }, { hash := PyData.keyHash P (Str.ofString "map_table_b3"), key := Value.str (Str.ofString "map_table_b3") 2245, val := Value.ref 99 }, { hash := PyData.keyHash P (Str.ofString "Whitespace"), key := Value.str (Str.ofString "Whitespace") 2350, val := Value.ref 161 }] 17 }
noncomputable def ob_12_10 (P : Params) : Obj :=
{ cls := Value.none,
  data := Data.fields #[Value.int 1 0, Value.int 0 0, Value.ref 20, Value.int 5 0, Value.int 0 0, Value.ref 27, Value.int 18 0, Value.int 0 0, Value.ref 34, Value.int 38 0, Value.int 0 0, Value.ref 52, Value.int 41 0, Value.int 0 0, Value.ref 98, Value.int 47 0, Value.int 0 0, Value.ref 105] }
noncomputable def ob_100_10 (P : Params) : Obj :=
{ cls := Value.type "tuple", data := Data.seq #[] }
noncomputable def ob_101_10 (P : Params) : Obj :=
{ cls := Value.type "builtin_function_or_method",
  data := Data.fields #[Value.builtin "type.__prepare__", Value.type "type"] }
noncomputable def ob_102_10 (P : Params) : Obj :=
{ cls := Value.type "dict",
  data := Data.dict #[{ hash := PyData.keyHash P (Str.ofString "__module__"), key := Value.str (Str.ofString "__module__") 2255, val := Value.str (Str.ofString "cpy313.tabnanny") 2246 }, { hash := PyData.keyHash P (Str.ofString "__qualname__"), key := Value.str (Str.ofString "__qualname__") 2257, val := Value.str (Str.ofString "Whitespace") 2256 }, { hash := PyData.keyHash P (Str.ofString "__firstlineno__"), key := Value.str (Str.ofString "__firstlineno__") 2259, val := Value.int 47 2258 }, { hash := PyData.keyHash P (Str.ofString "S"), key := Value.str (Str.ofString "S") 2263, val := Value.str (Str.ofString " ") 2261 }, { hash := PyData.keyHash P (Str.ofString "T"), key := Value.str (Str.ofString "T") 2264, val := Value.str (Str.ofString "\t") 2262 }, { hash := PyData.keyHash P (Str.ofString "__init__"), key := Value.str (Str.ofString "__init__") 2279, val := Value.ref 116 }, { hash := PyData.keyHash P (Str.ofString "longest_run_of_spaces"), key := Value.str (Str.ofString "longest_run_of_spaces") 2288, val := Value.ref 123 }, { hash := PyData.keyHash P (Str.ofString "indent_level"), key := Value.str (Str.ofString "indent_level") 2300, val := Value.ref 130 }, { hash := PyData.keyHash P (Str.ofString "equal"), key := Value.str (Str.ofString "equal") 2308, val := Value.ref 137 }, { hash := PyData.keyHash P (Str.ofString "not_equal_witness"), key := Value.str (Str.ofString "not_equal_witness") 2319, val := Value.ref 144 }, { hash := PyData.keyHash P (Str.ofString "less"), key := Value.str (Str.ofString "less") 2329, val := Value.ref 151 }, { hash := PyData.keyHash P (Str.ofString "not_less_witness"), key := Value.str (Str.ofString "not_less_witness") 2337, val := Value.ref 158 }, { hash := PyData.keyHash P (Str.ofString "__static_attributes__"), key := Value.str (Str.ofString "__static_attributes__") 2343, val := Value.ref 159 }] 13 }
noncomputable def ob_103_10 (P : Params) : Obj :=
{ cls := Value.type "tuple", data := Data.seq #[] }
noncomputable def ob_104_10 (P : Params) : Obj :=
{ cls := Value.none,
  data := Data.fields #[Value.int 50 0, Value.int 4 0, Value.ref 115, Value.int 73 0, Value.int 4 0, Value.ref 122, Value.int 77 0, Value.int 4 0, Value.ref 129, Value.int 84 0, Value.int 4 0, Value.ref 136, Value.int 87 0, Value.int 4 0, Value.ref 143, Value.int 95 0, Value.int 4 0, Value.ref 150, Value.int 106 0, Value.int 4 0, Value.ref 157] }
noncomputable def ob_105_10 (P : Params) : Obj :=
{ cls := Value.type "code",
  data := Data.fields #[Value.str (Str.ofString "Whitespace") 2250, Value.str (Str.ofString "Whitespace") 2251, Value.str (Str.ofString "/claim/cut.py") 2252, Value.int 47 0, Value.int 0 0, Value.int 0 0, Value.int 0 0, Value.int 0 0, Value.ref 103, Value.bool false, Value.int 181 0, Value.ref 104, Value.none, Value.none, Value.none, Value.none, Value.int 2253 0, Value.int 47 0, Value.str (Str.ofString "/claim/cut.py") 2254] }
noncomputable def ob_106_10 (P : Params) : Obj :=
{ cls := Value.type "frame",
  slots := #[some (Value.ref 105), some (Value.ref 3), some (Value.ref 102), none, some (Value.str (Str.ofString "cpy313.tabnanny") 2246), none, some (Value.ref 0)] }
noncomputable def ob_107_10 (P : Params) : Obj :=
{ cls := Value.type "str_ascii_iterator", data := Data.fields #[Value.none, Value.int 2 0] }
noncomputable def ob_108_10 (P : Params) : Obj :=
{ cls := Value.type "tuple", data := Data.seq #[] }
noncomputable def ob_109_10 (P : Params) : Obj :=
{ cls := Value.type "StopIteration",
  data := Data.fields #[Value.ref 108, Value.none, Value.none, Value.none, Value.bool false, Value.none] }
noncomputable def ob_110_10 (P : Params) : Obj :=
{ cls := Value.type "tuple", data := Data.seq #[] }
noncomputable def ob_111_10 (P : Params) : Obj :=
{ cls := Value.none, data := Data.fields #[] }
noncomputable def ob_112_10 (P : Params) : Obj :=
{ cls := Value.type "tuple",
  data := Data.seq #[Value.str (Str.ofString "self") 2268, Value.str (Str.ofString "ws") 2269, Value.str (Str.ofString "S") 2270, Value.str (Str.ofString "T") 2271, Value.str (Str.ofString "count") 2272, Value.str (Str.ofString "b") 2273, Value.str (Str.ofString "n") 2274, Value.str (Str.ofString "nt") 2275, Value.str (Str.ofString "ch") 2276] }
noncomputable def ob_113_10 (P : Params) : Obj :=
{ cls := Value.type "tuple", data := Data.seq #[] }
noncomputable def ob_114_10 (P : Params) : Obj :=
{ cls := Value.none, dict := none, data := Data.func { name := Str.ofString "__init__", qualname := Str.ofString "Whitespace.__init__", params := (fnC 1).params, body := FuncBody.stmts (fnC 1).body, scope := (fnC 1).scope, globals := 0, closure := [], defaults := Value.none, kwdefaults := Value.none, doc := Value.none, pyModule := Value.none, annotations := none, code := Value.none, closureTuple := Value.none, builtins := 0 }, slots := #[] }
noncomputable def ob_115_10 (P : Params) : Obj :=
{ cls := Value.type "code",
  data := Data.fields #[Value.str (Str.ofString "__init__") 2265, Value.str (Str.ofString "Whitespace.__init__") 2266, Value.str (Str.ofString "/claim/cut.py") 2267, Value.int 50 0, Value.int 2 0, Value.int 0 0, Value.int 0 0, Value.int 3 0, Value.ref 110, Value.bool true, Value.int 181 0, Value.ref 111, Value.none, Value.ref 112, Value.ref 113, Value.ref 114, Value.int 2277 0, Value.int 50 0, Value.str (Str.ofString "/claim/cut.py") 2278] }
noncomputable def ob_116_10 (P : Params) : Obj :=
{ cls := Value.type "function", dict := none, data := Data.func { name := Str.ofString "__init__", qualname := Str.ofString "Whitespace.__init__", params := (fnC 1).params, body := FuncBody.stmts (fnC 1).body, scope := (fnC 1).scope, globals := 3, closure := [], defaults := Value.none, kwdefaults := Value.none, doc := Value.none, pyModule := Value.str (Str.ofString "cpy313.tabnanny") 2246, annotations := none, code := Value.ref 115, closureTuple := Value.none, builtins := 0 }, slots := #[] }
noncomputable def ob_117_10 (P : Params) : Obj :=
{ cls := Value.type "tuple", data := Data.seq #[] }
noncomputable def ob_118_10 (P : Params) : Obj :=
{ cls := Value.none, data := Data.fields #[] }
noncomputable def ob_119_10 (P : Params) : Obj :=
{ cls := Value.type "tuple",
  data := Data.seq #[Value.str (Str.ofString "self") 2283, Value.str (Str.ofString "count") 2284, Value.str (Str.ofString "trailing") 2285] }
noncomputable def ob_120_10 (P : Params) : Obj :=
{ cls := Value.type "tuple", data := Data.seq #[] }
noncomputable def ob_121_10 (P : Params) : Obj :=
{ cls := Value.none, dict := none, data := Data.func { name := Str.ofString "longest_run_of_spaces", qualname := Str.ofString "Whitespace.longest_run_of_spaces", params := (fnC 2).params, body := FuncBody.stmts (fnC 2).body, scope := (fnC 2).scope, globals := 0, closure := [], defaults := Value.none, kwdefaults := Value.none, doc := Value.none, pyModule := Value.none, annotations := none, code := Value.none, closureTuple := Value.none, builtins := 0 }, slots := #[] }
noncomputable def ob_122_10 (P : Params) : Obj :=
{ cls := Value.type "code",
  data := Data.fields #[Value.str (Str.ofString "longest_run_of_spaces") 2280, Value.str (Str.ofString "Whitespace.longest_run_of_spaces") 2281, Value.str (Str.ofString "/claim/cut.py") 2282, Value.int 73 0, Value.int 1 0, Value.int 0 0, Value.int 0 0, Value.int 3 0, Value.ref 117, Value.bool true, Value.int 181 0, Value.ref 118, Value.none, Value.ref 119, Value.ref 120, Value.ref 121, Value.int 2286 0, Value.int 73 0, Value.str (Str.ofString "/claim/cut.py") 2287] }
noncomputable def ob_123_10 (P : Params) : Obj :=
{ cls := Value.type "function", dict := none, data := Data.func { name := Str.ofString "longest_run_of_spaces", qualname := Str.ofString "Whitespace.longest_run_of_spaces", params := (fnC 2).params, body := FuncBody.stmts (fnC 2).body, scope := (fnC 2).scope, globals := 3, closure := [], defaults := Value.none, kwdefaults := Value.none, doc := Value.none, pyModule := Value.str (Str.ofString "cpy313.tabnanny") 2246, annotations := none, code := Value.ref 122, closureTuple := Value.none, builtins := 0 }, slots := #[] }
noncomputable def ob_124_10 (P : Params) : Obj :=
{ cls := Value.type "tuple", data := Data.seq #[] }
noncomputable def ob_125_10 (P : Params) : Obj :=
{ cls := Value.none, data := Data.fields #[] }
noncomputable def ob_126_10 (P : Params) : Obj :=
{ cls := Value.type "tuple",
  data := Data.seq #[Value.str (Str.ofString "self") 2292, Value.str (Str.ofString "tabsize") 2293, Value.str (Str.ofString "count") 2294, Value.str (Str.ofString "trailing") 2295, Value.str (Str.ofString "il") 2296, Value.str (Str.ofString "i") 2297] }
noncomputable def ob_127_10 (P : Params) : Obj :=
{ cls := Value.type "tuple", data := Data.seq #[] }
noncomputable def ob_128_10 (P : Params) : Obj :=
{ cls := Value.none, dict := none, data := Data.func { name := Str.ofString "indent_level", qualname := Str.ofString "Whitespace.indent_level", params := (fnC 3).params, body := FuncBody.stmts (fnC 3).body, scope := (fnC 3).scope, globals := 0, closure := [], defaults := Value.none, kwdefaults := Value.none, doc := Value.none, pyModule := Value.none, annotations := none, code := Value.none, closureTuple := Value.none, builtins := 0 }, slots := #[] }
noncomputable def ob_129_10 (P : Params) : Obj :=
{ cls := Value.type "code",
  data := Data.fields #[Value.str (Str.ofString "indent_level") 2289, Value.str (Str.ofString "Whitespace.indent_level") 2290, Value.str (Str.ofString "/claim/cut.py") 2291, Value.int 77 0, Value.int 2 0, Value.int 0 0, Value.int 0 0, Value.int 3 0, Value.ref 124, Value.bool true, Value.int 181 0, Value.ref 125, Value.none, Value.ref 126, Value.ref 127, Value.ref 128, Value.int 2298 0, Value.int 77 0, Value.str (Str.ofString "/claim/cut.py") 2299] }
noncomputable def ob_130_10 (P : Params) : Obj :=
{ cls := Value.type "function", dict := none, data := Data.func { name := Str.ofString "indent_level", qualname := Str.ofString "Whitespace.indent_level", params := (fnC 3).params, body := FuncBody.stmts (fnC 3).body, scope := (fnC 3).scope, globals := 3, closure := [], defaults := Value.none, kwdefaults := Value.none, doc := Value.none, pyModule := Value.str (Str.ofString "cpy313.tabnanny") 2246, annotations := none, code := Value.ref 129, closureTuple := Value.none, builtins := 0 }, slots := #[] }
noncomputable def ob_131_10 (P : Params) : Obj :=
{ cls := Value.type "tuple", data := Data.seq #[] }
noncomputable def ob_132_10 (P : Params) : Obj :=
{ cls := Value.none, data := Data.fields #[] }
noncomputable def ob_133_10 (P : Params) : Obj :=
{ cls := Value.type "tuple",
  data := Data.seq #[Value.str (Str.ofString "self") 2304, Value.str (Str.ofString "other") 2305] }
noncomputable def ob_134_10 (P : Params) : Obj :=
{ cls := Value.type "tuple", data := Data.seq #[] }
noncomputable def ob_135_10 (P : Params) : Obj :=
{ cls := Value.none, dict := none, data := Data.func { name := Str.ofString "equal", qualname := Str.ofString "Whitespace.equal", params := (fnC 4).params, body := FuncBody.stmts (fnC 4).body, scope := (fnC 4).scope, globals := 0, closure := [], defaults := Value.none, kwdefaults := Value.none, doc := Value.none, pyModule := Value.none, annotations := none, code := Value.none, closureTuple := Value.none, builtins := 0 }, slots := #[] }
noncomputable def ob_136_10 (P : Params) : Obj :=
{ cls := Value.type "code",
  data := Data.fields #[Value.str (Str.ofString "equal") 2301, Value.str (Str.ofString "Whitespace.equal") 2302, Value.str (Str.ofString "/claim/cut.py") 2303, Value.int 84 0, Value.int 2 0, Value.int 0 0, Value.int 0 0, Value.int 3 0, Value.ref 131, Value.bool true, Value.int 181 0, Value.ref 132, Value.none, Value.ref 133, Value.ref 134, Value.ref 135, Value.int 2306 0, Value.int 84 0, Value.str (Str.ofString "/claim/cut.py") 2307] }
noncomputable def ob_137_10 (P : Params) : Obj :=
{ cls := Value.type "function", dict := none, data := Data.func { name := Str.ofString "equal", qualname := Str.ofString "Whitespace.equal", params := (fnC 4).params, body := FuncBody.stmts (fnC 4).body, scope := (fnC 4).scope, globals := 3, closure := [], defaults := Value.none, kwdefaults := Value.none, doc := Value.none, pyModule := Value.str (Str.ofString "cpy313.tabnanny") 2246, annotations := none, code := Value.ref 136, closureTuple := Value.none, builtins := 0 }, slots := #[] }
noncomputable def ob_138_10 (P : Params) : Obj :=
{ cls := Value.type "tuple", data := Data.seq #[] }
noncomputable def ob_139_10 (P : Params) : Obj :=
{ cls := Value.none, data := Data.fields #[] }
noncomputable def ob_140_10 (P : Params) : Obj :=
{ cls := Value.type "tuple",
  data := Data.seq #[Value.str (Str.ofString "self") 2312, Value.str (Str.ofString "other") 2313, Value.str (Str.ofString "n") 2314, Value.str (Str.ofString "a") 2315, Value.str (Str.ofString "ts") 2316] }
noncomputable def ob_141_10 (P : Params) : Obj :=
{ cls := Value.type "tuple", data := Data.seq #[] }
noncomputable def ob_142_10 (P : Params) : Obj :=
{ cls := Value.none, dict := none, data := Data.func { name := Str.ofString "not_equal_witness", qualname := Str.ofString "Whitespace.not_equal_witness", params := (fnC 5).params, body := FuncBody.stmts (fnC 5).body, scope := (fnC 5).scope, globals := 0, closure := [], defaults := Value.none, kwdefaults := Value.none, doc := Value.none, pyModule := Value.none, annotations := none, code := Value.none, closureTuple := Value.none, builtins := 0 }, slots := #[] }
noncomputable def ob_143_10 (P : Params) : Obj :=
{ cls := Value.type "code",
  data := Data.fields #[Value.str (Str.ofString "not_equal_witness") 2309, Value.str (Str.ofString "Whitespace.not_equal_witness") 2310, Value.str (Str.ofString "/claim/cut.py") 2311, Value.int 87 0, Value.int 2 0, Value.int 0 0, Value.int 0 0, Value.int 3 0, Value.ref 138, Value.bool true, Value.int 181 0, Value.ref 139, Value.none, Value.ref 140, Value.ref 141, Value.ref 142, Value.int 2317 0, Value.int 87 0, Value.str (Str.ofString "/claim/cut.py") 2318] }
noncomputable def ob_144_10 (P : Params) : Obj :=
{ cls := Value.type "function", dict := none, data := Data.func { name := Str.ofString "not_equal_witness", qualname := Str.ofString "Whitespace.not_equal_witness", params := (fnC 5).params, body := FuncBody.stmts (fnC 5).body, scope := (fnC 5).scope, globals := 3, closure := [], defaults := Value.none, kwdefaults := Value.none, doc := Value.none, pyModule := Value.str (Str.ofString "cpy313.tabnanny") 2246, annotations := none, code := Value.ref 143, closureTuple := Value.none, builtins := 0 }, slots := #[] }
noncomputable def ob_145_10 (P : Params) : Obj :=
{ cls := Value.type "tuple", data := Data.seq #[] }
noncomputable def ob_146_10 (P : Params) : Obj :=
{ cls := Value.none, data := Data.fields #[] }
noncomputable def ob_147_10 (P : Params) : Obj :=
{ cls := Value.type "tuple",
  data := Data.seq #[Value.str (Str.ofString "self") 2323, Value.str (Str.ofString "other") 2324, Value.str (Str.ofString "n") 2325, Value.str (Str.ofString "ts") 2326] }
noncomputable def ob_148_10 (P : Params) : Obj :=
{ cls := Value.type "tuple", data := Data.seq #[] }
noncomputable def ob_149_10 (P : Params) : Obj :=
{ cls := Value.none, dict := none, data := Data.func { name := Str.ofString "less", qualname := Str.ofString "Whitespace.less", params := (fnC 6).params, body := FuncBody.stmts (fnC 6).body, scope := (fnC 6).scope, globals := 0, closure := [], defaults := Value.none, kwdefaults := Value.none, doc := Value.none, pyModule := Value.none, annotations := none, code := Value.none, closureTuple := Value.none, builtins := 0 }, slots := #[] }
noncomputable def ob_150_10 (P : Params) : Obj :=
{ cls := Value.type "code",
  data := Data.fields #[Value.str (Str.ofString "less") 2320, Value.str (Str.ofString "Whitespace.less") 2321, Value.str (Str.ofString "/claim/cut.py") 2322, Value.int 95 0, Value.int 2 0, Value.int 0 0, Value.int 0 0, Value.int 3 0, Value.ref 145, Value.bool true, Value.int 181 0, Value.ref 146, Value.none, Value.ref 147, Value.ref 148, Value.ref 149, Value.int 2327 0, Value.int 95 0, Value.str (Str.ofString "/claim/cut.py") 2328] }
noncomputable def ob_151_10 (P : Params) : Obj :=
{ cls := Value.type "function", dict := none, data := Data.func { name := Str.ofString "less", qualname := Str.ofString "Whitespace.less", params := (fnC 6).params, body := FuncBody.stmts (fnC 6).body, scope := (fnC 6).scope, globals := 3, closure := [], defaults := Value.none, kwdefaults := Value.none, doc := Value.none, pyModule := Value.str (Str.ofString "cpy313.tabnanny") 2246, annotations := none, code := Value.ref 150, closureTuple := Value.none, builtins := 0 }, slots := #[] }
noncomputable def ob_152_10 (P : Params) : Obj :=
{ cls := Value.type "tuple", data := Data.seq #[] }
noncomputable def ob_153_10 (P : Params) : Obj :=
{ cls := Value.none, data := Data.fields #[] }
noncomputable def ob_154_10 (P : Params) : Obj :=
{ cls := Value.type "tuple",
  data := Data.seq #[Value.str (Str.ofString "self") 2333, Value.str (Str.ofString "other") 2334] }
noncomputable def ob_155_10 (P : Params) : Obj :=
{ cls := Value.type "tuple", data := Data.seq #[] }
noncomputable def ob_156_10 (P : Params) : Obj :=
{ cls := Value.none, dict := none, data := Data.func { name := Str.ofString "not_less_witness", qualname := Str.ofString "Whitespace.not_less_witness", params := (fnC 7).params, body := FuncBody.stmts (fnC 7).body, scope := (fnC 7).scope, globals := 0, closure := [], defaults := Value.none, kwdefaults := Value.none, doc := Value.none, pyModule := Value.none, annotations := none, code := Value.none, closureTuple := Value.none, builtins := 0 }, slots := #[] }
noncomputable def ob_157_10 (P : Params) : Obj :=
{ cls := Value.type "code",
  data := Data.fields #[Value.str (Str.ofString "not_less_witness") 2330, Value.str (Str.ofString "Whitespace.not_less_witness") 2331, Value.str (Str.ofString "/claim/cut.py") 2332, Value.int 106 0, Value.int 2 0, Value.int 0 0, Value.int 0 0, Value.int 3 0, Value.ref 152, Value.bool true, Value.int 181 0, Value.ref 153, Value.none, Value.ref 154, Value.ref 155, Value.ref 156, Value.int 2335 0, Value.int 106 0, Value.str (Str.ofString "/claim/cut.py") 2336] }
noncomputable def ob_158_10 (P : Params) : Obj :=
{ cls := Value.type "function", dict := none, data := Data.func { name := Str.ofString "not_less_witness", qualname := Str.ofString "Whitespace.not_less_witness", params := (fnC 7).params, body := FuncBody.stmts (fnC 7).body, scope := (fnC 7).scope, globals := 3, closure := [], defaults := Value.none, kwdefaults := Value.none, doc := Value.none, pyModule := Value.str (Str.ofString "cpy313.tabnanny") 2246, annotations := none, code := Value.ref 157, closureTuple := Value.none, builtins := 0 }, slots := #[] }
noncomputable def ob_159_10 (P : Params) : Obj :=
{ cls := Value.type "tuple",
  data := Data.seq #[Value.str (Str.ofString "is_simple") 2338, Value.str (Str.ofString "n") 2339, Value.str (Str.ofString "norm") 2340, Value.str (Str.ofString "nt") 2341, Value.str (Str.ofString "raw") 2342] }
noncomputable def ob_160_10 (P : Params) : Obj :=
{ cls := Value.type "dict",
  data := Data.dict #[{ hash := PyData.keyHash P (Str.ofString "__module__"), key := Value.str (Str.ofString "__module__") 2255, val := Value.str (Str.ofString "cpy313.tabnanny") 2246 }, { hash := PyData.keyHash P (Str.ofString "__firstlineno__"), key := Value.str (Str.ofString "__firstlineno__") 2259, val := Value.int 47 2258 }, { hash := PyData.keyHash P (Str.ofString "S"), key := Value.str (Str.ofString "S") 2263, val := Value.str (Str.ofString " ") 2261 }, { hash := PyData.keyHash P (Str.ofString "T"), key := Value.str (Str.ofString "T") 2264, val := Value.str (Str.ofString "\t") 2262 }, { hash := PyData.keyHash P (Str.ofString "__init__"), key := Value.str (Str.ofString "__init__") 2279, val := Value.ref 116 }, { hash := PyData.keyHash P (Str.ofString "longest_run_of_spaces"), key := Value.str (Str.ofString "longest_run_of_spaces") 2288, val := Value.ref 123 }, { hash := PyData.keyHash P (Str.ofString "indent_level"), key := Value.str (Str.ofString "indent_level") 2300, val := Value.ref 130 }, { hash := PyData.keyHash P (Str.ofString "equal"), key := Value.str (Str.ofString "equal") 2308, val := Value.ref 137 }, { hash := PyData.keyHash P (Str.ofString "not_equal_witness"), key := Value.str (Str.ofString "not_equal_witness") 2319, val := Value.ref 144 }, { hash := PyData.keyHash P (Str.ofString "less"), key := Value.str (Str.ofString "less") 2329, val := Value.ref 151 }, { hash := PyData.keyHash P (Str.ofString "not_less_witness"), key := Value.str (Str.ofString "not_less_witness") 2337, val := Value.ref 158 }, { hash := PyData.keyHash P (Str.ofString "__static_attributes__"), key := Value.str (Str.ofString "__static_attributes__") 2343, val := Value.ref 159 }, { hash := PyData.keyHash P (Str.ofString "__dict__"), key := Value.str (Str.ofString "__dict__") 2345, val := Value.ref 162 }, { hash := PyData.keyHash P (Str.ofString "__weakref__"), key := Value.str (Str.ofString "__weakref__") 2347, val := Value.ref 163 }, { hash := PyData.keyHash P (Str.ofString "__doc__"), key := Value.str (Str.ofString "__doc__") 2348, val := Value.none }] 4 }
noncomputable def ob_161_10 (P : Params) : Obj :=
{ cls := Value.type "type",
  data := Data.cls { name := Str.ofString "Whitespace", bases := [Value.type "object"], mro := [Value.ref 161, Value.type "object"], ns := 160, qualname := Str.ofString "Whitespace" },
  slots := #[none, none, some (Value.str (Str.ofString "Whitespace") 2248), some (Value.str (Str.ofString "Whitespace") 2256), some (Value.builtin "object.__new__"), some (Value.bool true)] }
noncomputable def ob_162_10 (P : Params) : Obj :=
{ cls := Value.type "getset_descriptor",
  data := Data.fields #[Value.str (Str.ofString "__dict__") 2344, Value.ref 161, Value.builtin "function.__dict__", Value.builtin "function.__dict__#set"] }
noncomputable def ob_163_10 (P : Params) : Obj :=
{ cls := Value.type "getset_descriptor",
  data := Data.fields #[Value.str (Str.ofString "__weakref__") 2346, Value.ref 161, Value.builtin "ExceptionGroup.__weakref__", Value.none] }
noncomputable def ob_164_10 (P : Params) : Obj :=
{ cls := Value.type "super", data := Data.fields #[Value.ref 161, Value.ref 161, Value.ref 161] }
noncomputable def ob_165_10 (P : Params) : Obj :=
{ cls := Value.type "builtin_function_or_method",
  data := Data.fields #[Value.builtin "object.__init_subclass__", Value.ref 161] }
noncomputable def hp_10 (P : Params) : Heap := ⟨#[boot_o_0 P, boot_o_1 P, boot_o_2 P, ob_3_10 P, boot_o_4 P, boot_o_5 P, boot_o_6 P, boot_o_7 P, boot_o_8 P, boot_o_9 P, boot_o_10 P, ob_11_pre P, ob_12_10 P, ob_13_pre P, ob_14_pre P, ob_15_0 P, ob_16_0 P, ob_17_0 P, ob_18_0 P, ob_19_0 P, ob_20_0 P, ob_21_0 P, ob_22_2 P, ob_23_2 P, ob_24_2 P, ob_25_2 P, ob_26_2 P, ob_27_2 P, ob_28_2 P, ob_29_3 P, ob_30_3 P, ob_31_3 P, ob_32_3 P, ob_33_3 P, ob_34_3 P, ob_35_3 P, ob_36_5 P, ob_37_5 P, ob_38_5 P, ob_39_5 P, ob_40_5 P, ob_41_5 P, ob_42_5 P, ob_43_5 P, ob_44_5 P, ob_45_5 P, ob_46_5 P, ob_47_6 P, ob_48_6 P, ob_49_6 P, ob_50_6 P, ob_51_6 P, ob_52_6 P, ob_53_6 P, obB 54 P, obB 55 P, obB 56 P, obB 57 P, obB 58 P, obB 59 P, obB 60 P, obB 61 P, obB 62 P, obB 63 P, obB 64 P, obB 65 P, obB 66 P, obB 67 P, obB 68 P, obB 69 P, obB 70 P, obB 71 P, obB 72 P, obB 73 P, obB 74 P, obB 75 P, obB 76 P, obB 77 P, obB 78 P, obB 79 P, obB 80 P, obB 81 P, obB 82 P, obB 83 P, obB 84 P, obB 85 P, obB 86 P, obB 87 P, obB 88 P, obB 89 P, obB 90 P, obB 91 P, obB 92 P, ob_93_8 P, ob_94_8 P, ob_95_8 P, ob_96_8 P, ob_97_8 P, ob_98_8 P, ob_99_8 P, ob_100_10 P, ob_101_10 P, ob_102_10 P, ob_103_10 P, ob_104_10 P, ob_105_10 P, ob_106_10 P, ob_107_10 P, ob_108_10 P, ob_109_10 P, ob_110_10 P, ob_111_10 P, ob_112_10 P, ob_113_10 P, ob_114_10 P, ob_115_10 P, ob_116_10 P, ob_117_10 P, ob_118_10 P, ob_119_10 P, ob_120_10 P, ob_121_10 P, ob_122_10 P, ob_123_10 P, ob_124_10 P, ob_125_10 P, ob_126_10 P, ob_127_10 P, ob_128_10 P, ob_129_10 P, ob_130_10 P, ob_131_10 P, ob_132_10 P, ob_133_10 P, ob_134_10 P, ob_135_10 P, ob_136_10 P, ob_137_10 P, ob_138_10 P, ob_139_10 P, ob_140_10 P, ob_141_10 P, ob_142_10 P, ob_143_10 P, ob_144_10 P, ob_145_10 P, ob_146_10 P, ob_147_10 P, ob_148_10 P, ob_149_10 P, ob_150_10 P, ob_151_10 P, ob_152_10 P, ob_153_10 P, ob_154_10 P, ob_155_10 P, ob_156_10 P, ob_157_10 P, ob_158_10 P, ob_159_10 P, ob_160_10 P, ob_161_10 P, ob_162_10 P, ob_163_10 P, ob_164_10 P, ob_165_10 P], boot_life⟩
noncomputable def ob_3_11 (P : Params) : Obj :=
{ cls := Value.type "dict",
  data := Data.dict #[{ hash := PyData.keyHash P (Str.ofString "__name__"), key := Value.str (Str.ofString "__name__") 165, val := Value.str (Str.ofString "law_st0046_02") 2351 }, { hash := PyData.keyHash P (Str.ofString "__doc__"), key := Value.str (Str.ofString "__doc__") 166, val := Value.none }, { hash := PyData.keyHash P (Str.ofString "__package__"), key := Value.str (Str.ofString "__package__") 167, val := Value.none }, { hash := PyData.keyHash P (Str.ofString "__loader__"), key := Value.str (Str.ofString "__loader__") 168, val := Value.builtin "__main__.__loader__#opaque" }, { hash := PyData.keyHash P (Str.ofString "__spec__"), key := Value.str (Str.ofString "__spec__") 169, val := Value.none }, { hash := PyData.keyHash P (Str.ofString "__annotations__"), key := Value.str (Str.ofString "__annotations__") 170, val := Value.ref 6 }, { hash := PyData.keyHash P (Str.ofString "__builtins__"), key := Value.str (Str.ofString "__builtins__") 171, val := Value.ref 4 }, { hash := PyData.keyHash P (Str.ofString "__file__"), key := Value.str (Str.ofString "__file__") 173, val := Value.str (Str.ofString "/claim/cut.py") 172 }, { hash := PyData.keyHash P (Str.ofString "__cached__"), key := Value.str (Str.ofString "__cached__") 174, val := Value.none }, { hash := PyData.keyHash P (Str.ofString "_wall"), key := Value.str (Str.ofString "_wall") 193, val := Value.ref 21 }, { hash := PyData.keyHash P (Str.ofString "_iter_escaped_chars"), key := Value.str (Str.ofString "_iter_escaped_chars") 205, val := Value.ref 28 }, { hash := PyData.keyHash P (Str.ofString "_strip_quoted_realnames"), key := Value.str (Str.ofString "_strip_quoted_realnames") 217, val := Value.ref 35 }, { hash := PyData.keyHash P (Str.ofString "b1_set"), key := Value.str (Str.ofString "b1_set") 279, val := Value.ref 43 }, { hash := PyData.keyHash P (Str.ofString "in_table_b1"), key := Value.str (Str.ofString "in_table_b1") 286, val := Value.ref 53 }, { hash := PyData.keyHash P (Str.ofString "b3_exceptions"), key := Value.str (Str.ofString "b3_exceptions") 2237, val := Value.ref 54 }, { hash := PyData.keyHash P (Str.ofString "map_table_b3"), key := Value.str (Str.ofString "map_table_b3") 2245, val := Value.ref 99 }, { hash := PyData.keyHash P (Str.ofString "Whitespace"), key := Value.str (Str.ofString "Whitespace") 2350, val := Value.ref 161 }] 17 }
noncomputable def hp_11 (P : Params) : Heap := ⟨#[boot_o_0 P, boot_o_1 P, boot_o_2 P, ob_3_11 P, boot_o_4 P, boot_o_5 P, boot_o_6 P, boot_o_7 P, boot_o_8 P, boot_o_9 P, boot_o_10 P, ob_11_pre P, ob_12_10 P, ob_13_pre P, ob_14_pre P, ob_15_0 P, ob_16_0 P, ob_17_0 P, ob_18_0 P, ob_19_0 P, ob_20_0 P, ob_21_0 P, ob_22_2 P, ob_23_2 P, ob_24_2 P, ob_25_2 P, ob_26_2 P, ob_27_2 P, ob_28_2 P, ob_29_3 P, ob_30_3 P, ob_31_3 P, ob_32_3 P, ob_33_3 P, ob_34_3 P, ob_35_3 P, ob_36_5 P, ob_37_5 P, ob_38_5 P, ob_39_5 P, ob_40_5 P, ob_41_5 P, ob_42_5 P, ob_43_5 P, ob_44_5 P, ob_45_5 P, ob_46_5 P, ob_47_6 P, ob_48_6 P, ob_49_6 P, ob_50_6 P, ob_51_6 P, ob_52_6 P, ob_53_6 P, obB 54 P, obB 55 P, obB 56 P, obB 57 P, obB 58 P, obB 59 P, obB 60 P, obB 61 P, obB 62 P, obB 63 P, obB 64 P, obB 65 P, obB 66 P, obB 67 P, obB 68 P, obB 69 P, obB 70 P, obB 71 P, obB 72 P, obB 73 P, obB 74 P, obB 75 P, obB 76 P, obB 77 P, obB 78 P, obB 79 P, obB 80 P, obB 81 P, obB 82 P, obB 83 P, obB 84 P, obB 85 P, obB 86 P, obB 87 P, obB 88 P, obB 89 P, obB 90 P, obB 91 P, obB 92 P, ob_93_8 P, ob_94_8 P, ob_95_8 P, ob_96_8 P, ob_97_8 P, ob_98_8 P, ob_99_8 P, ob_100_10 P, ob_101_10 P, ob_102_10 P, ob_103_10 P, ob_104_10 P, ob_105_10 P, ob_106_10 P, ob_107_10 P, ob_108_10 P, ob_109_10 P, ob_110_10 P, ob_111_10 P, ob_112_10 P, ob_113_10 P, ob_114_10 P, ob_115_10 P, ob_116_10 P, ob_117_10 P, ob_118_10 P, ob_119_10 P, ob_120_10 P, ob_121_10 P, ob_122_10 P, ob_123_10 P, ob_124_10 P, ob_125_10 P, ob_126_10 P, ob_127_10 P, ob_128_10 P, ob_129_10 P, ob_130_10 P, ob_131_10 P, ob_132_10 P, ob_133_10 P, ob_134_10 P, ob_135_10 P, ob_136_10 P, ob_137_10 P, ob_138_10 P, ob_139_10 P, ob_140_10 P, ob_141_10 P, ob_142_10 P, ob_143_10 P, ob_144_10 P, ob_145_10 P, ob_146_10 P, ob_147_10 P, ob_148_10 P, ob_149_10 P, ob_150_10 P, ob_151_10 P, ob_152_10 P, ob_153_10 P, ob_154_10 P, ob_155_10 P, ob_156_10 P, ob_157_10 P, ob_158_10 P, ob_159_10 P, ob_160_10 P, ob_161_10 P, ob_162_10 P, ob_163_10 P, ob_164_10 P, ob_165_10 P], boot_life⟩
noncomputable def ob_3_12 (P : Params) : Obj :=
{ cls := Value.type "dict",
  data := Data.dict #[{ hash := PyData.keyHash P (Str.ofString "__name__"), key := Value.str (Str.ofString "__name__") 165, val := Value.str (Str.ofString "law_st0046_02") 2351 }, { hash := PyData.keyHash P (Str.ofString "__doc__"), key := Value.str (Str.ofString "__doc__") 166, val := Value.none }, { hash := PyData.keyHash P (Str.ofString "__package__"), key := Value.str (Str.ofString "__package__") 167, val := Value.none }, { hash := PyData.keyHash P (Str.ofString "__loader__"), key := Value.str (Str.ofString "__loader__") 168, val := Value.builtin "__main__.__loader__#opaque" }, { hash := PyData.keyHash P (Str.ofString "__spec__"), key := Value.str (Str.ofString "__spec__") 169, val := Value.none }, { hash := PyData.keyHash P (Str.ofString "__annotations__"), key := Value.str (Str.ofString "__annotations__") 170, val := Value.ref 6 }, { hash := PyData.keyHash P (Str.ofString "__builtins__"), key := Value.str (Str.ofString "__builtins__") 171, val := Value.ref 4 }, { hash := PyData.keyHash P (Str.ofString "__file__"), key := Value.str (Str.ofString "__file__") 173, val := Value.str (Str.ofString "/claim/cut.py") 172 }, { hash := PyData.keyHash P (Str.ofString "__cached__"), key := Value.str (Str.ofString "__cached__") 174, val := Value.none }, { hash := PyData.keyHash P (Str.ofString "_wall"), key := Value.str (Str.ofString "_wall") 193, val := Value.ref 21 }, { hash := PyData.keyHash P (Str.ofString "_iter_escaped_chars"), key := Value.str (Str.ofString "_iter_escaped_chars") 205, val := Value.ref 28 }, { hash := PyData.keyHash P (Str.ofString "_strip_quoted_realnames"), key := Value.str (Str.ofString "_strip_quoted_realnames") 217, val := Value.ref 35 }, { hash := PyData.keyHash P (Str.ofString "b1_set"), key := Value.str (Str.ofString "b1_set") 279, val := Value.ref 43 }, { hash := PyData.keyHash P (Str.ofString "in_table_b1"), key := Value.str (Str.ofString "in_table_b1") 286, val := Value.ref 53 }, { hash := PyData.keyHash P (Str.ofString "b3_exceptions"), key := Value.str (Str.ofString "b3_exceptions") 2237, val := Value.ref 54 }, { hash := PyData.keyHash P (Str.ofString "map_table_b3"), key := Value.str (Str.ofString "map_table_b3") 2245, val := Value.ref 99 }, { hash := PyData.keyHash P (Str.ofString "Whitespace"), key := Value.str (Str.ofString "Whitespace") 2350, val := Value.ref 161 }, { hash := PyData.keyHash P (Str.ofString "_law_cell"), key := Value.str (Str.ofString "_law_cell") 2372, val := Value.ref 172 }] 18 }
noncomputable def ob_12_12 (P : Params) : Obj :=
{ cls := Value.none,
  data := Data.fields #[Value.int 1 0, Value.int 0 0, Value.ref 20, Value.int 5 0, Value.int 0 0, Value.ref 27, Value.int 18 0, Value.int 0 0, Value.ref 34, Value.int 38 0, Value.int 0 0, Value.ref 52, Value.int 41 0, Value.int 0 0, Value.ref 98, Value.int 47 0, Value.int 0 0, Value.ref 105, Value.int 109 0, Value.int 0 0, Value.ref 171] }
noncomputable def ob_166_12 (P : Params) : Obj :=
{ cls := Value.type "tuple", data := Data.seq #[] }
noncomputable def ob_167_12 (P : Params) : Obj :=
{ cls := Value.none, data := Data.fields #[] }
noncomputable def ob_168_12 (P : Params) : Obj :=
{ cls := Value.type "tuple",
  data := Data.seq #[Value.str (Str.ofString "n") 2356, Value.str (Str.ofString "odd") 2357, Value.str (Str.ofString "more") 2358, Value.str (Str.ofString "last") 2359, Value.str (Str.ofString "sign") 2360, Value.str (Str.ofString "other") 2361, Value.str (Str.ofString "ahead") 2362, Value.str (Str.ofString "behind") 2363, Value.str (Str.ofString "letter") 2364, Value.str (Str.ofString "great") 2365, Value.str (Str.ofString "ride") 2366, Value.str (Str.ofString "small") 2367, Value.str (Str.ofString "row") 2368, Value.str (Str.ofString "unseen") 2369] }
noncomputable def ob_169_12 (P : Params) : Obj :=
{ cls := Value.type "tuple", data := Data.seq #[] }
noncomputable def ob_170_12 (P : Params) : Obj :=
{ cls := Value.none, dict := none, data := Data.func { name := Str.ofString "_law_cell", qualname := Str.ofString "_law_cell", params := (fnT 12).params, body := FuncBody.stmts (fnT 12).body, scope := (fnT 12).scope, globals := 0, closure := [], defaults := Value.none, kwdefaults := Value.none, doc := Value.none, pyModule := Value.none, annotations := none, code := Value.none, closureTuple := Value.none, builtins := 0 }, slots := #[] }
noncomputable def ob_171_12 (P : Params) : Obj :=
{ cls := Value.type "code",
  data := Data.fields #[Value.str (Str.ofString "_law_cell") 2353, Value.str (Str.ofString "_law_cell") 2354, Value.str (Str.ofString "/claim/cut.py") 2355, Value.int 109 0, Value.int 4 0, Value.int 0 0, Value.int 0 0, Value.int 3 0, Value.ref 166, Value.bool true, Value.int 181 0, Value.ref 167, Value.none, Value.ref 168, Value.ref 169, Value.ref 170, Value.int 2370 0, Value.int 109 0, Value.str (Str.ofString "/claim/cut.py") 2371] }
noncomputable def ob_172_12 (P : Params) : Obj :=
{ cls := Value.type "function", dict := none, data := Data.func { name := Str.ofString "_law_cell", qualname := Str.ofString "_law_cell", params := (fnT 12).params, body := FuncBody.stmts (fnT 12).body, scope := (fnT 12).scope, globals := 3, closure := [], defaults := Value.none, kwdefaults := Value.none, doc := Value.none, pyModule := Value.str (Str.ofString "law_st0046_02") 2351, annotations := none, code := Value.ref 171, closureTuple := Value.none, builtins := 0 }, slots := #[] }
noncomputable def hp_12 (P : Params) : Heap := ⟨#[boot_o_0 P, boot_o_1 P, boot_o_2 P, ob_3_12 P, boot_o_4 P, boot_o_5 P, boot_o_6 P, boot_o_7 P, boot_o_8 P, boot_o_9 P, boot_o_10 P, ob_11_pre P, ob_12_12 P, ob_13_pre P, ob_14_pre P, ob_15_0 P, ob_16_0 P, ob_17_0 P, ob_18_0 P, ob_19_0 P, ob_20_0 P, ob_21_0 P, ob_22_2 P, ob_23_2 P, ob_24_2 P, ob_25_2 P, ob_26_2 P, ob_27_2 P, ob_28_2 P, ob_29_3 P, ob_30_3 P, ob_31_3 P, ob_32_3 P, ob_33_3 P, ob_34_3 P, ob_35_3 P, ob_36_5 P, ob_37_5 P, ob_38_5 P, ob_39_5 P, ob_40_5 P, ob_41_5 P, ob_42_5 P, ob_43_5 P, ob_44_5 P, ob_45_5 P, ob_46_5 P, ob_47_6 P, ob_48_6 P, ob_49_6 P, ob_50_6 P, ob_51_6 P, ob_52_6 P, ob_53_6 P, obB 54 P, obB 55 P, obB 56 P, obB 57 P, obB 58 P, obB 59 P, obB 60 P, obB 61 P, obB 62 P, obB 63 P, obB 64 P, obB 65 P, obB 66 P, obB 67 P, obB 68 P, obB 69 P, obB 70 P, obB 71 P, obB 72 P, obB 73 P, obB 74 P, obB 75 P, obB 76 P, obB 77 P, obB 78 P, obB 79 P, obB 80 P, obB 81 P, obB 82 P, obB 83 P, obB 84 P, obB 85 P, obB 86 P, obB 87 P, obB 88 P, obB 89 P, obB 90 P, obB 91 P, obB 92 P, ob_93_8 P, ob_94_8 P, ob_95_8 P, ob_96_8 P, ob_97_8 P, ob_98_8 P, ob_99_8 P, ob_100_10 P, ob_101_10 P, ob_102_10 P, ob_103_10 P, ob_104_10 P, ob_105_10 P, ob_106_10 P, ob_107_10 P, ob_108_10 P, ob_109_10 P, ob_110_10 P, ob_111_10 P, ob_112_10 P, ob_113_10 P, ob_114_10 P, ob_115_10 P, ob_116_10 P, ob_117_10 P, ob_118_10 P, ob_119_10 P, ob_120_10 P, ob_121_10 P, ob_122_10 P, ob_123_10 P, ob_124_10 P, ob_125_10 P, ob_126_10 P, ob_127_10 P, ob_128_10 P, ob_129_10 P, ob_130_10 P, ob_131_10 P, ob_132_10 P, ob_133_10 P, ob_134_10 P, ob_135_10 P, ob_136_10 P, ob_137_10 P, ob_138_10 P, ob_139_10 P, ob_140_10 P, ob_141_10 P, ob_142_10 P, ob_143_10 P, ob_144_10 P, ob_145_10 P, ob_146_10 P, ob_147_10 P, ob_148_10 P, ob_149_10 P, ob_150_10 P, ob_151_10 P, ob_152_10 P, ob_153_10 P, ob_154_10 P, ob_155_10 P, ob_156_10 P, ob_157_10 P, ob_158_10 P, ob_159_10 P, ob_160_10 P, ob_161_10 P, ob_162_10 P, ob_163_10 P, ob_164_10 P, ob_165_10 P, ob_166_12 P, ob_167_12 P, ob_168_12 P, ob_169_12 P, ob_170_12 P, ob_171_12 P, ob_172_12 P], boot_life⟩
noncomputable def ob_3_13 (P : Params) : Obj :=
{ cls := Value.type "dict",
  data := Data.dict #[{ hash := PyData.keyHash P (Str.ofString "__name__"), key := Value.str (Str.ofString "__name__") 165, val := Value.str (Str.ofString "law_st0046_02") 2351 }, { hash := PyData.keyHash P (Str.ofString "__doc__"), key := Value.str (Str.ofString "__doc__") 166, val := Value.none }, { hash := PyData.keyHash P (Str.ofString "__package__"), key := Value.str (Str.ofString "__package__") 167, val := Value.none }, { hash := PyData.keyHash P (Str.ofString "__loader__"), key := Value.str (Str.ofString "__loader__") 168, val := Value.builtin "__main__.__loader__#opaque" }, { hash := PyData.keyHash P (Str.ofString "__spec__"), key := Value.str (Str.ofString "__spec__") 169, val := Value.none }, { hash := PyData.keyHash P (Str.ofString "__annotations__"), key := Value.str (Str.ofString "__annotations__") 170, val := Value.ref 6 }, { hash := PyData.keyHash P (Str.ofString "__builtins__"), key := Value.str (Str.ofString "__builtins__") 171, val := Value.ref 4 }, { hash := PyData.keyHash P (Str.ofString "__file__"), key := Value.str (Str.ofString "__file__") 173, val := Value.str (Str.ofString "/claim/cut.py") 172 }, { hash := PyData.keyHash P (Str.ofString "__cached__"), key := Value.str (Str.ofString "__cached__") 174, val := Value.none }, { hash := PyData.keyHash P (Str.ofString "_wall"), key := Value.str (Str.ofString "_wall") 193, val := Value.ref 21 }, { hash := PyData.keyHash P (Str.ofString "_iter_escaped_chars"), key := Value.str (Str.ofString "_iter_escaped_chars") 205, val := Value.ref 28 }, { hash := PyData.keyHash P (Str.ofString "_strip_quoted_realnames"), key := Value.str (Str.ofString "_strip_quoted_realnames") 217, val := Value.ref 35 }, { hash := PyData.keyHash P (Str.ofString "b1_set"), key := Value.str (Str.ofString "b1_set") 279, val := Value.ref 43 }, { hash := PyData.keyHash P (Str.ofString "in_table_b1"), key := Value.str (Str.ofString "in_table_b1") 286, val := Value.ref 53 }, { hash := PyData.keyHash P (Str.ofString "b3_exceptions"), key := Value.str (Str.ofString "b3_exceptions") 2237, val := Value.ref 54 }, { hash := PyData.keyHash P (Str.ofString "map_table_b3"), key := Value.str (Str.ofString "map_table_b3") 2245, val := Value.ref 99 }, { hash := PyData.keyHash P (Str.ofString "Whitespace"), key := Value.str (Str.ofString "Whitespace") 2350, val := Value.ref 161 }, { hash := PyData.keyHash P (Str.ofString "_law_cell"), key := Value.str (Str.ofString "_law_cell") 2372, val := Value.ref 172 }, { hash := PyData.keyHash P (Str.ofString "_law_units"), key := Value.str (Str.ofString "_law_units") 2382, val := Value.ref 179 }] 19 }
noncomputable def ob_12_13 (P : Params) : Obj :=
{ cls := Value.none,
  data := Data.fields #[Value.int 1 0, Value.int 0 0, Value.ref 20, Value.int 5 0, Value.int 0 0, Value.ref 27, Value.int 18 0, Value.int 0 0, Value.ref 34, Value.int 38 0, Value.int 0 0, Value.ref 52, Value.int 41 0, Value.int 0 0, Value.ref 98, Value.int 47 0, Value.int 0 0, Value.ref 105, Value.int 109 0, Value.int 0 0, Value.ref 171, Value.int 120 0, Value.int 0 0, Value.ref 178] }
noncomputable def ob_173_13 (P : Params) : Obj :=
{ cls := Value.type "tuple", data := Data.seq #[] }
noncomputable def ob_174_13 (P : Params) : Obj :=
{ cls := Value.none, data := Data.fields #[] }
noncomputable def ob_175_13 (P : Params) : Obj :=
{ cls := Value.type "tuple",
  data := Data.seq #[Value.str (Str.ofString "text") 2376, Value.str (Str.ofString "units") 2377, Value.str (Str.ofString "behind") 2378, Value.str (Str.ofString "unit") 2379] }
noncomputable def ob_176_13 (P : Params) : Obj :=
{ cls := Value.type "tuple", data := Data.seq #[] }
noncomputable def ob_177_13 (P : Params) : Obj :=
{ cls := Value.none, dict := none, data := Data.func { name := Str.ofString "_law_units", qualname := Str.ofString "_law_units", params := (fnT 13).params, body := FuncBody.stmts (fnT 13).body, scope := (fnT 13).scope, globals := 0, closure := [], defaults := Value.none, kwdefaults := Value.none, doc := Value.none, pyModule := Value.none, annotations := none, code := Value.none, closureTuple := Value.none, builtins := 0 }, slots := #[] }
noncomputable def ob_178_13 (P : Params) : Obj :=
{ cls := Value.type "code",
  data := Data.fields #[Value.str (Str.ofString "_law_units") 2373, Value.str (Str.ofString "_law_units") 2374, Value.str (Str.ofString "/claim/cut.py") 2375, Value.int 120 0, Value.int 1 0, Value.int 0 0, Value.int 0 0, Value.int 3 0, Value.ref 173, Value.bool true, Value.int 181 0, Value.ref 174, Value.none, Value.ref 175, Value.ref 176, Value.ref 177, Value.int 2380 0, Value.int 120 0, Value.str (Str.ofString "/claim/cut.py") 2381] }
noncomputable def ob_179_13 (P : Params) : Obj :=
{ cls := Value.type "function", dict := none, data := Data.func { name := Str.ofString "_law_units", qualname := Str.ofString "_law_units", params := (fnT 13).params, body := FuncBody.stmts (fnT 13).body, scope := (fnT 13).scope, globals := 3, closure := [], defaults := Value.none, kwdefaults := Value.none, doc := Value.none, pyModule := Value.str (Str.ofString "law_st0046_02") 2351, annotations := none, code := Value.ref 178, closureTuple := Value.none, builtins := 0 }, slots := #[] }
noncomputable def hp_13 (P : Params) : Heap := ⟨#[boot_o_0 P, boot_o_1 P, boot_o_2 P, ob_3_13 P, boot_o_4 P, boot_o_5 P, boot_o_6 P, boot_o_7 P, boot_o_8 P, boot_o_9 P, boot_o_10 P, ob_11_pre P, ob_12_13 P, ob_13_pre P, ob_14_pre P, ob_15_0 P, ob_16_0 P, ob_17_0 P, ob_18_0 P, ob_19_0 P, ob_20_0 P, ob_21_0 P, ob_22_2 P, ob_23_2 P, ob_24_2 P, ob_25_2 P, ob_26_2 P, ob_27_2 P, ob_28_2 P, ob_29_3 P, ob_30_3 P, ob_31_3 P, ob_32_3 P, ob_33_3 P, ob_34_3 P, ob_35_3 P, ob_36_5 P, ob_37_5 P, ob_38_5 P, ob_39_5 P, ob_40_5 P, ob_41_5 P, ob_42_5 P, ob_43_5 P, ob_44_5 P, ob_45_5 P, ob_46_5 P, ob_47_6 P, ob_48_6 P, ob_49_6 P, ob_50_6 P, ob_51_6 P, ob_52_6 P, ob_53_6 P, obB 54 P, obB 55 P, obB 56 P, obB 57 P, obB 58 P, obB 59 P, obB 60 P, obB 61 P, obB 62 P, obB 63 P, obB 64 P, obB 65 P, obB 66 P, obB 67 P, obB 68 P, obB 69 P, obB 70 P, obB 71 P, obB 72 P, obB 73 P, obB 74 P, obB 75 P, obB 76 P, obB 77 P, obB 78 P, obB 79 P, obB 80 P, obB 81 P, obB 82 P, obB 83 P, obB 84 P, obB 85 P, obB 86 P, obB 87 P, obB 88 P, obB 89 P, obB 90 P, obB 91 P, obB 92 P, ob_93_8 P, ob_94_8 P, ob_95_8 P, ob_96_8 P, ob_97_8 P, ob_98_8 P, ob_99_8 P, ob_100_10 P, ob_101_10 P, ob_102_10 P, ob_103_10 P, ob_104_10 P, ob_105_10 P, ob_106_10 P, ob_107_10 P, ob_108_10 P, ob_109_10 P, ob_110_10 P, ob_111_10 P, ob_112_10 P, ob_113_10 P, ob_114_10 P, ob_115_10 P, ob_116_10 P, ob_117_10 P, ob_118_10 P, ob_119_10 P, ob_120_10 P, ob_121_10 P, ob_122_10 P, ob_123_10 P, ob_124_10 P, ob_125_10 P, ob_126_10 P, ob_127_10 P, ob_128_10 P, ob_129_10 P, ob_130_10 P, ob_131_10 P, ob_132_10 P, ob_133_10 P, ob_134_10 P, ob_135_10 P, ob_136_10 P, ob_137_10 P, ob_138_10 P, ob_139_10 P, ob_140_10 P, ob_141_10 P, ob_142_10 P, ob_143_10 P, ob_144_10 P, ob_145_10 P, ob_146_10 P, ob_147_10 P, ob_148_10 P, ob_149_10 P, ob_150_10 P, ob_151_10 P, ob_152_10 P, ob_153_10 P, ob_154_10 P, ob_155_10 P, ob_156_10 P, ob_157_10 P, ob_158_10 P, ob_159_10 P, ob_160_10 P, ob_161_10 P, ob_162_10 P, ob_163_10 P, ob_164_10 P, ob_165_10 P, ob_166_12 P, ob_167_12 P, ob_168_12 P, ob_169_12 P, ob_170_12 P, ob_171_12 P, ob_172_12 P, ob_173_13 P, ob_174_13 P, ob_175_13 P, ob_176_13 P, ob_177_13 P, ob_178_13 P, ob_179_13 P], boot_life⟩
noncomputable def ob_3_14 (P : Params) : Obj :=
{ cls := Value.type "dict",
  data := Data.dict #[{ hash := PyData.keyHash P (Str.ofString "__name__"), key := Value.str (Str.ofString "__name__") 165, val := Value.str (Str.ofString "law_st0046_02") 2351 }, { hash := PyData.keyHash P (Str.ofString "__doc__"), key := Value.str (Str.ofString "__doc__") 166, val := Value.none }, { hash := PyData.keyHash P (Str.ofString "__package__"), key := Value.str (Str.ofString "__package__") 167, val := Value.none }, { hash := PyData.keyHash P (Str.ofString "__loader__"), key := Value.str (Str.ofString "__loader__") 168, val := Value.builtin "__main__.__loader__#opaque" }, { hash := PyData.keyHash P (Str.ofString "__spec__"), key := Value.str (Str.ofString "__spec__") 169, val := Value.none }, { hash := PyData.keyHash P (Str.ofString "__annotations__"), key := Value.str (Str.ofString "__annotations__") 170, val := Value.ref 6 }, { hash := PyData.keyHash P (Str.ofString "__builtins__"), key := Value.str (Str.ofString "__builtins__") 171, val := Value.ref 4 }, { hash := PyData.keyHash P (Str.ofString "__file__"), key := Value.str (Str.ofString "__file__") 173, val := Value.str (Str.ofString "/claim/cut.py") 172 }, { hash := PyData.keyHash P (Str.ofString "__cached__"), key := Value.str (Str.ofString "__cached__") 174, val := Value.none }, { hash := PyData.keyHash P (Str.ofString "_wall"), key := Value.str (Str.ofString "_wall") 193, val := Value.ref 21 }, { hash := PyData.keyHash P (Str.ofString "_iter_escaped_chars"), key := Value.str (Str.ofString "_iter_escaped_chars") 205, val := Value.ref 28 }, { hash := PyData.keyHash P (Str.ofString "_strip_quoted_realnames"), key := Value.str (Str.ofString "_strip_quoted_realnames") 217, val := Value.ref 35 }, { hash := PyData.keyHash P (Str.ofString "b1_set"), key := Value.str (Str.ofString "b1_set") 279, val := Value.ref 43 }, { hash := PyData.keyHash P (Str.ofString "in_table_b1"), key := Value.str (Str.ofString "in_table_b1") 286, val := Value.ref 53 }, { hash := PyData.keyHash P (Str.ofString "b3_exceptions"), key := Value.str (Str.ofString "b3_exceptions") 2237, val := Value.ref 54 }, { hash := PyData.keyHash P (Str.ofString "map_table_b3"), key := Value.str (Str.ofString "map_table_b3") 2245, val := Value.ref 99 }, { hash := PyData.keyHash P (Str.ofString "Whitespace"), key := Value.str (Str.ofString "Whitespace") 2350, val := Value.ref 161 }, { hash := PyData.keyHash P (Str.ofString "_law_cell"), key := Value.str (Str.ofString "_law_cell") 2372, val := Value.ref 172 }, { hash := PyData.keyHash P (Str.ofString "_law_units"), key := Value.str (Str.ofString "_law_units") 2382, val := Value.ref 179 }, { hash := PyData.keyHash P (Str.ofString "_law_row"), key := Value.str (Str.ofString "_law_row") 2388, val := Value.ref 184 }] 20 }
noncomputable def ob_12_14 (P : Params) : Obj :=
{ cls := Value.none,
  data := Data.fields #[Value.int 1 0, Value.int 0 0, Value.ref 20, Value.int 5 0, Value.int 0 0, Value.ref 27, Value.int 18 0, Value.int 0 0, Value.ref 34, Value.int 38 0, Value.int 0 0, Value.ref 52, Value.int 41 0, Value.int 0 0, Value.ref 98, Value.int 47 0, Value.int 0 0, Value.ref 105, Value.int 109 0, Value.int 0 0, Value.ref 171, Value.int 120 0, Value.int 0 0, Value.ref 178, Value.int 127 0, Value.int 0 0, Value.ref 183] }
noncomputable def ob_180_14 (P : Params) : Obj :=
{ cls := Value.type "tuple", data := Data.seq #[] }
noncomputable def ob_181_14 (P : Params) : Obj :=
{ cls := Value.none, data := Data.fields #[] }
noncomputable def ob_182_14 (P : Params) : Obj :=
{ cls := Value.none, dict := none, data := Data.func { name := Str.ofString "_law_row", qualname := Str.ofString "_law_row", params := (fnT 14).params, body := FuncBody.stmts (fnT 14).body, scope := (fnT 14).scope, globals := 0, closure := [], defaults := Value.none, kwdefaults := Value.none, doc := Value.none, pyModule := Value.none, annotations := none, code := Value.none, closureTuple := Value.none, builtins := 0 }, slots := #[] }
noncomputable def ob_183_14 (P : Params) : Obj :=
{ cls := Value.type "code",
  data := Data.fields #[Value.str (Str.ofString "_law_row") 2383, Value.str (Str.ofString "_law_row") 2384, Value.str (Str.ofString "/claim/cut.py") 2385, Value.int 127 0, Value.int 1 0, Value.int 0 0, Value.int 0 0, Value.int 3 0, Value.ref 180, Value.bool true, Value.int 181 0, Value.ref 181, Value.none, Value.none, Value.none, Value.ref 182, Value.int 2386 0, Value.int 127 0, Value.str (Str.ofString "/claim/cut.py") 2387] }
noncomputable def ob_184_14 (P : Params) : Obj :=
{ cls := Value.type "function", dict := none, data := Data.func { name := Str.ofString "_law_row", qualname := Str.ofString "_law_row", params := (fnT 14).params, body := FuncBody.stmts (fnT 14).body, scope := (fnT 14).scope, globals := 3, closure := [], defaults := Value.none, kwdefaults := Value.none, doc := Value.none, pyModule := Value.str (Str.ofString "law_st0046_02") 2351, annotations := none, code := Value.ref 183, closureTuple := Value.none, builtins := 0 }, slots := #[] }
noncomputable def hp_14 (P : Params) : Heap := ⟨#[boot_o_0 P, boot_o_1 P, boot_o_2 P, ob_3_14 P, boot_o_4 P, boot_o_5 P, boot_o_6 P, boot_o_7 P, boot_o_8 P, boot_o_9 P, boot_o_10 P, ob_11_pre P, ob_12_14 P, ob_13_pre P, ob_14_pre P, ob_15_0 P, ob_16_0 P, ob_17_0 P, ob_18_0 P, ob_19_0 P, ob_20_0 P, ob_21_0 P, ob_22_2 P, ob_23_2 P, ob_24_2 P, ob_25_2 P, ob_26_2 P, ob_27_2 P, ob_28_2 P, ob_29_3 P, ob_30_3 P, ob_31_3 P, ob_32_3 P, ob_33_3 P, ob_34_3 P, ob_35_3 P, ob_36_5 P, ob_37_5 P, ob_38_5 P, ob_39_5 P, ob_40_5 P, ob_41_5 P, ob_42_5 P, ob_43_5 P, ob_44_5 P, ob_45_5 P, ob_46_5 P, ob_47_6 P, ob_48_6 P, ob_49_6 P, ob_50_6 P, ob_51_6 P, ob_52_6 P, ob_53_6 P, obB 54 P, obB 55 P, obB 56 P, obB 57 P, obB 58 P, obB 59 P, obB 60 P, obB 61 P, obB 62 P, obB 63 P, obB 64 P, obB 65 P, obB 66 P, obB 67 P, obB 68 P, obB 69 P, obB 70 P, obB 71 P, obB 72 P, obB 73 P, obB 74 P, obB 75 P, obB 76 P, obB 77 P, obB 78 P, obB 79 P, obB 80 P, obB 81 P, obB 82 P, obB 83 P, obB 84 P, obB 85 P, obB 86 P, obB 87 P, obB 88 P, obB 89 P, obB 90 P, obB 91 P, obB 92 P, ob_93_8 P, ob_94_8 P, ob_95_8 P, ob_96_8 P, ob_97_8 P, ob_98_8 P, ob_99_8 P, ob_100_10 P, ob_101_10 P, ob_102_10 P, ob_103_10 P, ob_104_10 P, ob_105_10 P, ob_106_10 P, ob_107_10 P, ob_108_10 P, ob_109_10 P, ob_110_10 P, ob_111_10 P, ob_112_10 P, ob_113_10 P, ob_114_10 P, ob_115_10 P, ob_116_10 P, ob_117_10 P, ob_118_10 P, ob_119_10 P, ob_120_10 P, ob_121_10 P, ob_122_10 P, ob_123_10 P, ob_124_10 P, ob_125_10 P, ob_126_10 P, ob_127_10 P, ob_128_10 P, ob_129_10 P, ob_130_10 P, ob_131_10 P, ob_132_10 P, ob_133_10 P, ob_134_10 P, ob_135_10 P, ob_136_10 P, ob_137_10 P, ob_138_10 P, ob_139_10 P, ob_140_10 P, ob_141_10 P, ob_142_10 P, ob_143_10 P, ob_144_10 P, ob_145_10 P, ob_146_10 P, ob_147_10 P, ob_148_10 P, ob_149_10 P, ob_150_10 P, ob_151_10 P, ob_152_10 P, ob_153_10 P, ob_154_10 P, ob_155_10 P, ob_156_10 P, ob_157_10 P, ob_158_10 P, ob_159_10 P, ob_160_10 P, ob_161_10 P, ob_162_10 P, ob_163_10 P, ob_164_10 P, ob_165_10 P, ob_166_12 P, ob_167_12 P, ob_168_12 P, ob_169_12 P, ob_170_12 P, ob_171_12 P, ob_172_12 P, ob_173_13 P, ob_174_13 P, ob_175_13 P, ob_176_13 P, ob_177_13 P, ob_178_13 P, ob_179_13 P, ob_180_14 P, ob_181_14 P, ob_182_14 P, ob_183_14 P, ob_184_14 P], boot_life⟩
noncomputable def ob_3_15 (P : Params) : Obj :=
{ cls := Value.type "dict",
  data := Data.dict #[{ hash := PyData.keyHash P (Str.ofString "__name__"), key := Value.str (Str.ofString "__name__") 165, val := Value.str (Str.ofString "law_st0046_02") 2351 }, { hash := PyData.keyHash P (Str.ofString "__doc__"), key := Value.str (Str.ofString "__doc__") 166, val := Value.none }, { hash := PyData.keyHash P (Str.ofString "__package__"), key := Value.str (Str.ofString "__package__") 167, val := Value.none }, { hash := PyData.keyHash P (Str.ofString "__loader__"), key := Value.str (Str.ofString "__loader__") 168, val := Value.builtin "__main__.__loader__#opaque" }, { hash := PyData.keyHash P (Str.ofString "__spec__"), key := Value.str (Str.ofString "__spec__") 169, val := Value.none }, { hash := PyData.keyHash P (Str.ofString "__annotations__"), key := Value.str (Str.ofString "__annotations__") 170, val := Value.ref 6 }, { hash := PyData.keyHash P (Str.ofString "__builtins__"), key := Value.str (Str.ofString "__builtins__") 171, val := Value.ref 4 }, { hash := PyData.keyHash P (Str.ofString "__file__"), key := Value.str (Str.ofString "__file__") 173, val := Value.str (Str.ofString "/claim/cut.py") 172 }, { hash := PyData.keyHash P (Str.ofString "__cached__"), key := Value.str (Str.ofString "__cached__") 174, val := Value.none }, { hash := PyData.keyHash P (Str.ofString "_wall"), key := Value.str (Str.ofString "_wall") 193, val := Value.ref 21 }, { hash := PyData.keyHash P (Str.ofString "_iter_escaped_chars"), key := Value.str (Str.ofString "_iter_escaped_chars") 205, val := Value.ref 28 }, { hash := PyData.keyHash P (Str.ofString "_strip_quoted_realnames"), key := Value.str (Str.ofString "_strip_quoted_realnames") 217, val := Value.ref 35 }, { hash := PyData.keyHash P (Str.ofString "b1_set"), key := Value.str (Str.ofString "b1_set") 279, val := Value.ref 43 }, { hash := PyData.keyHash P (Str.ofString "in_table_b1"), key := Value.str (Str.ofString "in_table_b1") 286, val := Value.ref 53 }, { hash := PyData.keyHash P (Str.ofString "b3_exceptions"), key := Value.str (Str.ofString "b3_exceptions") 2237, val := Value.ref 54 }, { hash := PyData.keyHash P (Str.ofString "map_table_b3"), key := Value.str (Str.ofString "map_table_b3") 2245, val := Value.ref 99 }, { hash := PyData.keyHash P (Str.ofString "Whitespace"), key := Value.str (Str.ofString "Whitespace") 2350, val := Value.ref 161 }, { hash := PyData.keyHash P (Str.ofString "_law_cell"), key := Value.str (Str.ofString "_law_cell") 2372, val := Value.ref 172 }, { hash := PyData.keyHash P (Str.ofString "_law_units"), key := Value.str (Str.ofString "_law_units") 2382, val := Value.ref 179 }, { hash := PyData.keyHash P (Str.ofString "_law_row"), key := Value.str (Str.ofString "_law_row") 2388, val := Value.ref 184 }, { hash := PyData.keyHash P (Str.ofString "_law_lead"), key := Value.str (Str.ofString "_law_lead") 2394, val := Value.ref 189 }] 21 }
noncomputable def ob_12_15 (P : Params) : Obj :=
{ cls := Value.none,
  data := Data.fields #[Value.int 1 0, Value.int 0 0, Value.ref 20, Value.int 5 0, Value.int 0 0, Value.ref 27, Value.int 18 0, Value.int 0 0, Value.ref 34, Value.int 38 0, Value.int 0 0, Value.ref 52, Value.int 41 0, Value.int 0 0, Value.ref 98, Value.int 47 0, Value.int 0 0, Value.ref 105, Value.int 109 0, Value.int 0 0, Value.ref 171, Value.int 120 0, Value.int 0 0, Value.ref 178, Value.int 127 0, Value.int 0 0, Value.ref 183, Value.int 129 0, Value.int 0 0, Value.ref 188] }
noncomputable def ob_185_15 (P : Params) : Obj :=
{ cls := Value.type "tuple", data := Data.seq #[] }
noncomputable def ob_186_15 (P : Params) : Obj :=
{ cls := Value.none, data := Data.fields #[] }
noncomputable def ob_187_15 (P : Params) : Obj :=
{ cls := Value.none, dict := none, data := Data.func { name := Str.ofString "_law_lead", qualname := Str.ofString "_law_lead", params := (fnT 15).params, body := FuncBody.stmts (fnT 15).body, scope := (fnT 15).scope, globals := 0, closure := [], defaults := Value.none, kwdefaults := Value.none, doc := Value.none, pyModule := Value.none, annotations := none, code := Value.none, closureTuple := Value.none, builtins := 0 }, slots := #[] }
noncomputable def ob_188_15 (P : Params) : Obj :=
{ cls := Value.type "code",
  data := Data.fields #[Value.str (Str.ofString "_law_lead") 2389, Value.str (Str.ofString "_law_lead") 2390, Value.str (Str.ofString "/claim/cut.py") 2391, Value.int 129 0, Value.int 1 0, Value.int 0 0, Value.int 0 0, Value.int 3 0, Value.ref 185, Value.bool true, Value.int 181 0, Value.ref 186, Value.none, Value.none, Value.none, Value.ref 187, Value.int 2392 0, Value.int 129 0, Value.str (Str.ofString "/claim/cut.py") 2393] }
noncomputable def ob_189_15 (P : Params) : Obj :=
{ cls := Value.type "function", dict := none, data := Data.func { name := Str.ofString "_law_lead", qualname := Str.ofString "_law_lead", params := (fnT 15).params, body := FuncBody.stmts (fnT 15).body, scope := (fnT 15).scope, globals := 3, closure := [], defaults := Value.none, kwdefaults := Value.none, doc := Value.none, pyModule := Value.str (Str.ofString "law_st0046_02") 2351, annotations := none, code := Value.ref 188, closureTuple := Value.none, builtins := 0 }, slots := #[] }
noncomputable def hp_15 (P : Params) : Heap := ⟨#[boot_o_0 P, boot_o_1 P, boot_o_2 P, ob_3_15 P, boot_o_4 P, boot_o_5 P, boot_o_6 P, boot_o_7 P, boot_o_8 P, boot_o_9 P, boot_o_10 P, ob_11_pre P, ob_12_15 P, ob_13_pre P, ob_14_pre P, ob_15_0 P, ob_16_0 P, ob_17_0 P, ob_18_0 P, ob_19_0 P, ob_20_0 P, ob_21_0 P, ob_22_2 P, ob_23_2 P, ob_24_2 P, ob_25_2 P, ob_26_2 P, ob_27_2 P, ob_28_2 P, ob_29_3 P, ob_30_3 P, ob_31_3 P, ob_32_3 P, ob_33_3 P, ob_34_3 P, ob_35_3 P, ob_36_5 P, ob_37_5 P, ob_38_5 P, ob_39_5 P, ob_40_5 P, ob_41_5 P, ob_42_5 P, ob_43_5 P, ob_44_5 P, ob_45_5 P, ob_46_5 P, ob_47_6 P, ob_48_6 P, ob_49_6 P, ob_50_6 P, ob_51_6 P, ob_52_6 P, ob_53_6 P, obB 54 P, obB 55 P, obB 56 P, obB 57 P, obB 58 P, obB 59 P, obB 60 P, obB 61 P, obB 62 P, obB 63 P, obB 64 P, obB 65 P, obB 66 P, obB 67 P, obB 68 P, obB 69 P, obB 70 P, obB 71 P, obB 72 P, obB 73 P, obB 74 P, obB 75 P, obB 76 P, obB 77 P, obB 78 P, obB 79 P, obB 80 P, obB 81 P, obB 82 P, obB 83 P, obB 84 P, obB 85 P, obB 86 P, obB 87 P, obB 88 P, obB 89 P, obB 90 P, obB 91 P, obB 92 P, ob_93_8 P, ob_94_8 P, ob_95_8 P, ob_96_8 P, ob_97_8 P, ob_98_8 P, ob_99_8 P, ob_100_10 P, ob_101_10 P, ob_102_10 P, ob_103_10 P, ob_104_10 P, ob_105_10 P, ob_106_10 P, ob_107_10 P, ob_108_10 P, ob_109_10 P, ob_110_10 P, ob_111_10 P, ob_112_10 P, ob_113_10 P, ob_114_10 P, ob_115_10 P, ob_116_10 P, ob_117_10 P, ob_118_10 P, ob_119_10 P, ob_120_10 P, ob_121_10 P, ob_122_10 P, ob_123_10 P, ob_124_10 P, ob_125_10 P, ob_126_10 P, ob_127_10 P, ob_128_10 P, ob_129_10 P, ob_130_10 P, ob_131_10 P, ob_132_10 P, ob_133_10 P, ob_134_10 P, ob_135_10 P, ob_136_10 P, ob_137_10 P, ob_138_10 P, ob_139_10 P, ob_140_10 P, ob_141_10 P, ob_142_10 P, ob_143_10 P, ob_144_10 P, ob_145_10 P, ob_146_10 P, ob_147_10 P, ob_148_10 P, ob_149_10 P, ob_150_10 P, ob_151_10 P, ob_152_10 P, ob_153_10 P, ob_154_10 P, ob_155_10 P, ob_156_10 P, ob_157_10 P, ob_158_10 P, ob_159_10 P, ob_160_10 P, ob_161_10 P, ob_162_10 P, ob_163_10 P, ob_164_10 P, ob_165_10 P, ob_166_12 P, ob_167_12 P, ob_168_12 P, ob_169_12 P, ob_170_12 P, ob_171_12 P, ob_172_12 P, ob_173_13 P, ob_174_13 P, ob_175_13 P, ob_176_13 P, ob_177_13 P, ob_178_13 P, ob_179_13 P, ob_180_14 P, ob_181_14 P, ob_182_14 P, ob_183_14 P, ob_184_14 P, ob_185_15 P, ob_186_15 P, ob_187_15 P, ob_188_15 P, ob_189_15 P], boot_life⟩
noncomputable def ob_3_16 (P : Params) : Obj :=
{ cls := Value.type "dict",
  data := Data.dict #[{ hash := PyData.keyHash P (Str.ofString "__name__"), key := Value.str (Str.ofString "__name__") 165, val := Value.str (Str.ofString "law_st0046_02") 2351 }, { hash := PyData.keyHash P (Str.ofString "__doc__"), key := Value.str (Str.ofString "__doc__") 166, val := Value.none }, { hash := PyData.keyHash P (Str.ofString "__package__"), key := Value.str (Str.ofString "__package__") 167, val := Value.none }, { hash := PyData.keyHash P (Str.ofString "__loader__"), key := Value.str (Str.ofString "__loader__") 168, val := Value.builtin "__main__.__loader__#opaque" }, { hash := PyData.keyHash P (Str.ofString "__spec__"), key := Value.str (Str.ofString "__spec__") 169, val := Value.none }, { hash := PyData.keyHash P (Str.ofString "__annotations__"), key := Value.str (Str.ofString "__annotations__") 170, val := Value.ref 6 }, { hash := PyData.keyHash P (Str.ofString "__builtins__"), key := Value.str (Str.ofString "__builtins__") 171, val := Value.ref 4 }, { hash := PyData.keyHash P (Str.ofString "__file__"), key := Value.str (Str.ofString "__file__") 173, val := Value.str (Str.ofString "/claim/cut.py") 172 }, { hash := PyData.keyHash P (Str.ofString "__cached__"), key := Value.str (Str.ofString "__cached__") 174, val := Value.none }, { hash := PyData.keyHash P (Str.ofString "_wall"), key := Value.str (Str.ofString "_wall") 193, val := Value.ref 21 }, { hash := PyData.keyHash P (Str.ofString "_iter_escaped_chars"), key := Value.str (Str.ofString "_iter_escaped_chars") 205, val := Value.ref 28 }, { hash := PyData.keyHash P (Str.ofString "_strip_quoted_realnames"), key := Value.str (Str.ofString "_strip_quoted_realnames") 217, val := Value.ref 35 }, { hash := PyData.keyHash P (Str.ofString "b1_set"), key := Value.str (Str.ofString "b1_set") 279, val := Value.ref 43 }, { hash := PyData.keyHash P (Str.ofString "in_table_b1"), key := Value.str (Str.ofString "in_table_b1") 286, val := Value.ref 53 }, { hash := PyData.keyHash P (Str.ofString "b3_exceptions"), key := Value.str (Str.ofString "b3_exceptions") 2237, val := Value.ref 54 }, { hash := PyData.keyHash P (Str.ofString "map_table_b3"), key := Value.str (Str.ofString "map_table_b3") 2245, val := Value.ref 99 }, { hash := PyData.keyHash P (Str.ofString "Whitespace"), key := Value.str (Str.ofString "Whitespace") 2350, val := Value.ref 161 }, { hash := PyData.keyHash P (Str.ofString "_law_cell"), key := Value.str (Str.ofString "_law_cell") 2372, val := Value.ref 172 }, { hash := PyData.keyHash P (Str.ofString "_law_units"), key := Value.str (Str.ofString "_law_units") 2382, val := Value.ref 179 }, { hash := PyData.keyHash P (Str.ofString "_law_row"), key := Value.str (Str.ofString "_law_row") 2388, val := Value.ref 184 }, { hash := PyData.keyHash P (Str.ofString "_law_lead"), key := Value.str (Str.ofString "_law_lead") 2394, val := Value.ref 189 }, { hash := PyData.keyHash P (Str.ofString "_law_back"), key := Value.str (Str.ofString "_law_back") 2404, val := Value.ref 196 }] 22 }
noncomputable def ob_12_16 (P : Params) : Obj :=
{ cls := Value.none,
  data := Data.fields #[Value.int 1 0, Value.int 0 0, Value.ref 20, Value.int 5 0, Value.int 0 0, Value.ref 27, Value.int 18 0, Value.int 0 0, Value.ref 34, Value.int 38 0, Value.int 0 0, Value.ref 52, Value.int 41 0, Value.int 0 0, Value.ref 98, Value.int 47 0, Value.int 0 0, Value.ref 105, Value.int 109 0, Value.int 0 0, Value.ref 171, Value.int 120 0, Value.int 0 0, Value.ref 178, Value.int 127 0, Value.int 0 0, Value.ref 183, Value.int 129 0, Value.int 0 0, Value.ref 188, Value.int 131 0, Value.int 0 0, Value.ref 195] }
noncomputable def ob_190_16 (P : Params) : Obj :=
{ cls := Value.type "tuple", data := Data.seq #[] }
noncomputable def ob_191_16 (P : Params) : Obj :=
{ cls := Value.none, data := Data.fields #[] }
noncomputable def ob_192_16 (P : Params) : Obj :=
{ cls := Value.type "tuple",
  data := Data.seq #[Value.str (Str.ofString "row") 2398, Value.str (Str.ofString "far") 2399, Value.str (Str.ofString "opened") 2400, Value.str (Str.ofString "k") 2401] }
noncomputable def ob_193_16 (P : Params) : Obj :=
{ cls := Value.type "tuple", data := Data.seq #[] }
noncomputable def ob_194_16 (P : Params) : Obj :=
{ cls := Value.none, dict := none, data := Data.func { name := Str.ofString "_law_back", qualname := Str.ofString "_law_back", params := (fnT 16).params, body := FuncBody.stmts (fnT 16).body, scope := (fnT 16).scope, globals := 0, closure := [], defaults := Value.none, kwdefaults := Value.none, doc := Value.none, pyModule := Value.none, annotations := none, code := Value.none, closureTuple := Value.none, builtins := 0 }, slots := #[] }
noncomputable def ob_195_16 (P : Params) : Obj :=
{ cls := Value.type "code",
  data := Data.fields #[Value.str (Str.ofString "_law_back") 2395, Value.str (Str.ofString "_law_back") 2396, Value.str (Str.ofString "/claim/cut.py") 2397, Value.int 131 0, Value.int 2 0, Value.int 0 0, Value.int 0 0, Value.int 3 0, Value.ref 190, Value.bool true, Value.int 181 0, Value.ref 191, Value.none, Value.ref 192, Value.ref 193, Value.ref 194, Value.int 2402 0, Value.int 131 0, Value.str (Str.ofString "/claim/cut.py") 2403] }
noncomputable def ob_196_16 (P : Params) : Obj :=
{ cls := Value.type "function", dict := none, data := Data.func { name := Str.ofString "_law_back", qualname := Str.ofString "_law_back", params := (fnT 16).params, body := FuncBody.stmts (fnT 16).body, scope := (fnT 16).scope, globals := 3, closure := [], defaults := Value.none, kwdefaults := Value.none, doc := Value.none, pyModule := Value.str (Str.ofString "law_st0046_02") 2351, annotations := none, code := Value.ref 195, closureTuple := Value.none, builtins := 0 }, slots := #[] }
noncomputable def hp_16 (P : Params) : Heap := ⟨#[boot_o_0 P, boot_o_1 P, boot_o_2 P, ob_3_16 P, boot_o_4 P, boot_o_5 P, boot_o_6 P, boot_o_7 P, boot_o_8 P, boot_o_9 P, boot_o_10 P, ob_11_pre P, ob_12_16 P, ob_13_pre P, ob_14_pre P, ob_15_0 P, ob_16_0 P, ob_17_0 P, ob_18_0 P, ob_19_0 P, ob_20_0 P, ob_21_0 P, ob_22_2 P, ob_23_2 P, ob_24_2 P, ob_25_2 P, ob_26_2 P, ob_27_2 P, ob_28_2 P, ob_29_3 P, ob_30_3 P, ob_31_3 P, ob_32_3 P, ob_33_3 P, ob_34_3 P, ob_35_3 P, ob_36_5 P, ob_37_5 P, ob_38_5 P, ob_39_5 P, ob_40_5 P, ob_41_5 P, ob_42_5 P, ob_43_5 P, ob_44_5 P, ob_45_5 P, ob_46_5 P, ob_47_6 P, ob_48_6 P, ob_49_6 P, ob_50_6 P, ob_51_6 P, ob_52_6 P, ob_53_6 P, obB 54 P, obB 55 P, obB 56 P, obB 57 P, obB 58 P, obB 59 P, obB 60 P, obB 61 P, obB 62 P, obB 63 P, obB 64 P, obB 65 P, obB 66 P, obB 67 P, obB 68 P, obB 69 P, obB 70 P, obB 71 P, obB 72 P, obB 73 P, obB 74 P, obB 75 P, obB 76 P, obB 77 P, obB 78 P, obB 79 P, obB 80 P, obB 81 P, obB 82 P, obB 83 P, obB 84 P, obB 85 P, obB 86 P, obB 87 P, obB 88 P, obB 89 P, obB 90 P, obB 91 P, obB 92 P, ob_93_8 P, ob_94_8 P, ob_95_8 P, ob_96_8 P, ob_97_8 P, ob_98_8 P, ob_99_8 P, ob_100_10 P, ob_101_10 P, ob_102_10 P, ob_103_10 P, ob_104_10 P, ob_105_10 P, ob_106_10 P, ob_107_10 P, ob_108_10 P, ob_109_10 P, ob_110_10 P, ob_111_10 P, ob_112_10 P, ob_113_10 P, ob_114_10 P, ob_115_10 P, ob_116_10 P, ob_117_10 P, ob_118_10 P, ob_119_10 P, ob_120_10 P, ob_121_10 P, ob_122_10 P, ob_123_10 P, ob_124_10 P, ob_125_10 P, ob_126_10 P, ob_127_10 P, ob_128_10 P, ob_129_10 P, ob_130_10 P, ob_131_10 P, ob_132_10 P, ob_133_10 P, ob_134_10 P, ob_135_10 P, ob_136_10 P, ob_137_10 P, ob_138_10 P, ob_139_10 P, ob_140_10 P, ob_141_10 P, ob_142_10 P, ob_143_10 P, ob_144_10 P, ob_145_10 P, ob_146_10 P, ob_147_10 P, ob_148_10 P, ob_149_10 P, ob_150_10 P, ob_151_10 P, ob_152_10 P, ob_153_10 P, ob_154_10 P, ob_155_10 P, ob_156_10 P, ob_157_10 P, ob_158_10 P, ob_159_10 P, ob_160_10 P, ob_161_10 P, ob_162_10 P, ob_163_10 P, ob_164_10 P, ob_165_10 P, ob_166_12 P, ob_167_12 P, ob_168_12 P, ob_169_12 P, ob_170_12 P, ob_171_12 P, ob_172_12 P, ob_173_13 P, ob_174_13 P, ob_175_13 P, ob_176_13 P, ob_177_13 P, ob_178_13 P, ob_179_13 P, ob_180_14 P, ob_181_14 P, ob_182_14 P, ob_183_14 P, ob_184_14 P, ob_185_15 P, ob_186_15 P, ob_187_15 P, ob_188_15 P, ob_189_15 P, ob_190_16 P, ob_191_16 P, ob_192_16 P, ob_193_16 P, ob_194_16 P, ob_195_16 P, ob_196_16 P], boot_life⟩
noncomputable def ob_3_17 (P : Params) : Obj :=
{ cls := Value.type "dict",
  data := Data.dict #[{ hash := PyData.keyHash P (Str.ofString "__name__"), key := Value.str (Str.ofString "__name__") 165, val := Value.str (Str.ofString "law_st0046_02") 2351 }, { hash := PyData.keyHash P (Str.ofString "__doc__"), key := Value.str (Str.ofString "__doc__") 166, val := Value.none }, { hash := PyData.keyHash P (Str.ofString "__package__"), key := Value.str (Str.ofString "__package__") 167, val := Value.none }, { hash := PyData.keyHash P (Str.ofString "__loader__"), key := Value.str (Str.ofString "__loader__") 168, val := Value.builtin "__main__.__loader__#opaque" }, { hash := PyData.keyHash P (Str.ofString "__spec__"), key := Value.str (Str.ofString "__spec__") 169, val := Value.none }, { hash := PyData.keyHash P (Str.ofString "__annotations__"), key := Value.str (Str.ofString "__annotations__") 170, val := Value.ref 6 }, { hash := PyData.keyHash P (Str.ofString "__builtins__"), key := Value.str (Str.ofString "__builtins__") 171, val := Value.ref 4 }, { hash := PyData.keyHash P (Str.ofString "__file__"), key := Value.str (Str.ofString "__file__") 173, val := Value.str (Str.ofString "/claim/cut.py") 172 }, { hash := PyData.keyHash P (Str.ofString "__cached__"), key := Value.str (Str.ofString "__cached__") 174, val := Value.none }, { hash := PyData.keyHash P (Str.ofString "_wall"), key := Value.str (Str.ofString "_wall") 193, val := Value.ref 21 }, { hash := PyData.keyHash P (Str.ofString "_iter_escaped_chars"), key := Value.str (Str.ofString "_iter_escaped_chars") 205, val := Value.ref 28 }, { hash := PyData.keyHash P (Str.ofString "_strip_quoted_realnames"), key := Value.str (Str.ofString "_strip_quoted_realnames") 217, val := Value.ref 35 }, { hash := PyData.keyHash P (Str.ofString "b1_set"), key := Value.str (Str.ofString "b1_set") 279, val := Value.ref 43 }, { hash := PyData.keyHash P (Str.ofString "in_table_b1"), key := Value.str (Str.ofString "in_table_b1") 286, val := Value.ref 53 }, { hash := PyData.keyHash P (Str.ofString "b3_exceptions"), key := Value.str (Str.ofString "b3_exceptions") 2237, val := Value.ref 54 }, { hash := PyData.keyHash P (Str.ofString "map_table_b3"), key := Value.str (Str.ofString "map_table_b3") 2245, val := Value.ref 99 }, { hash := PyData.keyHash P (Str.ofString "Whitespace"), key := Value.str (Str.ofString "Whitespace") 2350, val := Value.ref 161 }, { hash := PyData.keyHash P (Str.ofString "_law_cell"), key := Value.str (Str.ofString "_law_cell") 2372, val := Value.ref 172 }, { hash := PyData.keyHash P (Str.ofString "_law_units"), key := Value.str (Str.ofString "_law_units") 2382, val := Value.ref 179 }, { hash := PyData.keyHash P (Str.ofString "_law_row"), key := Value.str (Str.ofString "_law_row") 2388, val := Value.ref 184 }, { hash := PyData.keyHash P (Str.ofString "_law_lead"), key := Value.str (Str.ofString "_law_lead") 2394, val := Value.ref 189 }, { hash := PyData.keyHash P (Str.ofString "_law_back"), key := Value.str (Str.ofString "_law_back") 2404, val := Value.ref 196 }, { hash := PyData.keyHash P (Str.ofString "law"), key := Value.str (Str.ofString "law") 2410, val := Value.ref 201 }] 23 }
noncomputable def ob_12_17 (P : Params) : Obj :=
{ cls := Value.none,
  data := Data.fields #[Value.int 1 0, Value.int 0 0, Value.ref 20, Value.int 5 0, Value.int 0 0, Value.ref 27, Value.int 18 0, Value.int 0 0, Value.ref 34, Value.int 38 0, Value.int 0 0, Value.ref 52, Value.int 41 0, Value.int 0 0, Value.ref 98, Value.int 47 0, Value.int 0 0, Value.ref 105, Value.int 109 0, Value.int 0 0, Value.ref 171, Value.int 120 0, Value.int 0 0, Value.ref 178, Value.int 127 0, Value.int 0 0, Value.ref 183, Value.int 129 0, Value.int 0 0, Value.ref 188, Value.int 131 0, Value.int 0 0, Value.ref 195, Value.int 139 0, Value.int 0 0, Value.ref 200] }
noncomputable def ob_197_17 (P : Params) : Obj :=
{ cls := Value.type "tuple", data := Data.seq #[] }
noncomputable def ob_198_17 (P : Params) : Obj :=
{ cls := Value.none, data := Data.fields #[] }
noncomputable def ob_199_17 (P : Params) : Obj :=
{ cls := Value.none, dict := none, data := Data.func { name := Str.ofString "law", qualname := Str.ofString "law", params := (fnT 17).params, body := FuncBody.stmts (fnT 17).body, scope := (fnT 17).scope, globals := 0, closure := [], defaults := Value.none, kwdefaults := Value.none, doc := Value.none, pyModule := Value.none, annotations := none, code := Value.none, closureTuple := Value.none, builtins := 0 }, slots := #[] }
noncomputable def ob_200_17 (P : Params) : Obj :=
{ cls := Value.type "code",
  data := Data.fields #[Value.str (Str.ofString "law") 2405, Value.str (Str.ofString "law") 2406, Value.str (Str.ofString "/claim/cut.py") 2407, Value.int 139 0, Value.int 1 0, Value.int 0 0, Value.int 0 0, Value.int 3 0, Value.ref 197, Value.bool true, Value.int 181 0, Value.ref 198, Value.none, Value.none, Value.none, Value.ref 199, Value.int 2408 0, Value.int 139 0, Value.str (Str.ofString "/claim/cut.py") 2409] }
noncomputable def ob_201_17 (P : Params) : Obj :=
{ cls := Value.type "function", dict := none, data := Data.func { name := Str.ofString "law", qualname := Str.ofString "law", params := (fnT 17).params, body := FuncBody.stmts (fnT 17).body, scope := (fnT 17).scope, globals := 3, closure := [], defaults := Value.none, kwdefaults := Value.none, doc := Value.none, pyModule := Value.str (Str.ofString "law_st0046_02") 2351, annotations := none, code := Value.ref 200, closureTuple := Value.none, builtins := 0 }, slots := #[] }
noncomputable def hp_17 (P : Params) : Heap := ⟨#[boot_o_0 P, boot_o_1 P, boot_o_2 P, ob_3_17 P, boot_o_4 P, boot_o_5 P, boot_o_6 P, boot_o_7 P, boot_o_8 P, boot_o_9 P, boot_o_10 P, ob_11_pre P, ob_12_17 P, ob_13_pre P, ob_14_pre P, ob_15_0 P, ob_16_0 P, ob_17_0 P, ob_18_0 P, ob_19_0 P, ob_20_0 P, ob_21_0 P, ob_22_2 P, ob_23_2 P, ob_24_2 P, ob_25_2 P, ob_26_2 P, ob_27_2 P, ob_28_2 P, ob_29_3 P, ob_30_3 P, ob_31_3 P, ob_32_3 P, ob_33_3 P, ob_34_3 P, ob_35_3 P, ob_36_5 P, ob_37_5 P, ob_38_5 P, ob_39_5 P, ob_40_5 P, ob_41_5 P, ob_42_5 P, ob_43_5 P, ob_44_5 P, ob_45_5 P, ob_46_5 P, ob_47_6 P, ob_48_6 P, ob_49_6 P, ob_50_6 P, ob_51_6 P, ob_52_6 P, ob_53_6 P, obB 54 P, obB 55 P, obB 56 P, obB 57 P, obB 58 P, obB 59 P, obB 60 P, obB 61 P, obB 62 P, obB 63 P, obB 64 P, obB 65 P, obB 66 P, obB 67 P, obB 68 P, obB 69 P, obB 70 P, obB 71 P, obB 72 P, obB 73 P, obB 74 P, obB 75 P, obB 76 P, obB 77 P, obB 78 P, obB 79 P, obB 80 P, obB 81 P, obB 82 P, obB 83 P, obB 84 P, obB 85 P, obB 86 P, obB 87 P, obB 88 P, obB 89 P, obB 90 P, obB 91 P, obB 92 P, ob_93_8 P, ob_94_8 P, ob_95_8 P, ob_96_8 P, ob_97_8 P, ob_98_8 P, ob_99_8 P, ob_100_10 P, ob_101_10 P, ob_102_10 P, ob_103_10 P, ob_104_10 P, ob_105_10 P, ob_106_10 P, ob_107_10 P, ob_108_10 P, ob_109_10 P, ob_110_10 P, ob_111_10 P, ob_112_10 P, ob_113_10 P, ob_114_10 P, ob_115_10 P, ob_116_10 P, ob_117_10 P, ob_118_10 P, ob_119_10 P, ob_120_10 P, ob_121_10 P, ob_122_10 P, ob_123_10 P, ob_124_10 P, ob_125_10 P, ob_126_10 P, ob_127_10 P, ob_128_10 P, ob_129_10 P, ob_130_10 P, ob_131_10 P, ob_132_10 P, ob_133_10 P, ob_134_10 P, ob_135_10 P, ob_136_10 P, ob_137_10 P, ob_138_10 P, ob_139_10 P, ob_140_10 P, ob_141_10 P, ob_142_10 P, ob_143_10 P, ob_144_10 P, ob_145_10 P, ob_146_10 P, ob_147_10 P, ob_148_10 P, ob_149_10 P, ob_150_10 P, ob_151_10 P, ob_152_10 P, ob_153_10 P, ob_154_10 P, ob_155_10 P, ob_156_10 P, ob_157_10 P, ob_158_10 P, ob_159_10 P, ob_160_10 P, ob_161_10 P, ob_162_10 P, ob_163_10 P, ob_164_10 P, ob_165_10 P, ob_166_12 P, ob_167_12 P, ob_168_12 P, ob_169_12 P, ob_170_12 P, ob_171_12 P, ob_172_12 P, ob_173_13 P, ob_174_13 P, ob_175_13 P, ob_176_13 P, ob_177_13 P, ob_178_13 P, ob_179_13 P, ob_180_14 P, ob_181_14 P, ob_182_14 P, ob_183_14 P, ob_184_14 P, ob_185_15 P, ob_186_15 P, ob_187_15 P, ob_188_15 P, ob_189_15 P, ob_190_16 P, ob_191_16 P, ob_192_16 P, ob_193_16 P, ob_194_16 P, ob_195_16 P, ob_196_16 P, ob_197_17 P, ob_198_17 P, ob_199_17 P, ob_200_17 P, ob_201_17 P], boot_life⟩
end Mine.H
end
section
open PySem PySem.Calls PyProof.Rows PySem.W
set_option maxRecDepth 100000
set_option maxHeartbeats 0
namespace Mine.H
theorem piece_0 (w : World) (os : OsState) : segRun treeTable PR w 11 (some (.ref 6)) 1 30 ⟨hp_pre w.params, #[], boot_drawn, 187, os⟩ (pieceOf (st 0) benv bcode ⟨0, 0, 0, 0⟩ [topFrame default]) = some (.next, ⟨hp_0 w.params, #[], boot_drawn, 194, os⟩, bcode, ⟨1, 0, 3, 12⟩) := by kernel_rfl
theorem piece_1 (w : World) (os : OsState) : segRun treeTable PR w 11 (some (.ref 6)) 1 10 ⟨hp_0 w.params, #[], boot_drawn, 194, os⟩ (pieceOf (st 1) benv bcode ⟨1, 0, 3, 12⟩ [topFrame default]) = some (.next, ⟨hp_1 w.params, #[], boot_drawn, 196, os⟩, bcode, ⟨4, 0, 4, 8⟩) := by kernel_rfl
theorem piece_2 (w : World) (os : OsState) : segRun treeTable PR w 11 (some (.ref 6)) 1 33 ⟨hp_1 w.params, #[], boot_drawn, 196, os⟩ (pieceOf (st 2) benv bcode ⟨4, 0, 4, 8⟩ [topFrame default]) = some (.next, ⟨hp_2 w.params, #[], boot_drawn, 206, os⟩, bcode, ⟨5, 0, 17, 25⟩) := by kernel_rfl
theorem piece_3 (w : World) (os : OsState) : segRun treeTable PR w 11 (some (.ref 6)) 1 35 ⟨hp_2 w.params, #[], boot_drawn, 206, os⟩ (pieceOf (st 3) benv bcode ⟨5, 0, 17, 25⟩ [topFrame default]) = some (.next, ⟨hp_3 w.params, #[], boot_drawn, 218, os⟩, bcode, ⟨18, 0, 35, 26⟩) := by kernel_rfl
theorem piece_4 (w : World) (os : OsState) : segRun treeTable PR w 11 (some (.ref 6)) 1 10 ⟨hp_3 w.params, #[], boot_drawn, 218, os⟩ (pieceOf (st 4) benv bcode ⟨18, 0, 35, 26⟩ [topFrame default]) = some (.next, ⟨hp_4 w.params, #[], boot_drawn, 220, os⟩, bcode, ⟨36, 0, 36, 8⟩) := by kernel_rfl
theorem piece_6 (w : World) (os : OsState) : segRun treeTable PR w 11 (some (.ref 6)) 1 30 ⟨hp_5 w.params, #[], boot_drawn, 280, os⟩ (pieceOf (st 6) benv bcode ⟨37, 0, 37, 6⟩ [topFrame default]) = some (.next, ⟨hp_6 w.params, #[], boot_drawn, 287, os⟩, bcode, ⟨38, 0, 39, 30⟩) := by kernel_rfl
end Mine.H
end
section
open PySem PySem.Calls PyProof.Rows PySem.W
set_option maxRecDepth 100000
set_option maxHeartbeats 0
namespace Mine.H
noncomputable def SetP (w : World) : Prop := ∀ (os : OsState), segRun treeTable PR w 11 (some (.ref 6)) 1 999 ⟨hp_4 w.params, #[], boot_drawn, 220, os⟩ (pieceOf (st 5) benv bcode ⟨36, 0, 36, 8⟩ [topFrame default]) = some (.next, ⟨hp_5 w.params, #[], boot_drawn, 280, os⟩, bcode, ⟨37, 0, 37, 6⟩)
theorem SetPff (w : World) : SetP ((w.withFollow "special-get-raises" false).withFollow "set-order" false) := by
  intro os; rw [PySem.W.Fast.te14374325043358763698, PySem.W.Fast.te14364793385576792824]; kernel_rfl
theorem SetPft (w : World) : SetP ((w.withFollow "special-get-raises" true).withFollow "set-order" false) := by
  intro os; rw [PySem.W.Fast.te14374325043358763698, PySem.W.Fast.te14364793385576792824]; kernel_rfl
theorem SetPtf (w : World) : SetP ((w.withFollow "special-get-raises" false).withFollow "set-order" true) := by
  intro os; rw [PySem.W.Fast.te14374325043358763698, PySem.W.Fast.te14364793385576792824]; kernel_rfl
theorem SetPtt (w : World) : SetP ((w.withFollow "special-get-raises" true).withFollow "set-order" true) := by
  intro os; rw [PySem.W.Fast.te14374325043358763698, PySem.W.Fast.te14364793385576792824]; kernel_rfl
theorem piece_5 : ∀ w : World, SetP w := byRow2 (P := SetP) "set-order" (byRow2 (P := fun w => SetP (w.withFollow "set-order" false)) "special-get-raises" SetPff SetPft) (byRow2 (P := fun w => SetP (w.withFollow "set-order" true)) "special-get-raises" SetPtf SetPtt)
end Mine.H
end
section
open PySem PySem.Calls PyProof.Rows PySem.W
set_option maxRecDepth 100000
set_option maxHeartbeats 0
namespace Mine.H
theorem piece_8 (w : World) (os : OsState) : segRun treeTable PR w 11 (some (.ref 6)) 1 31 ⟨hp_7 w.params, #[], boot_drawn, 2238, os⟩ (pieceOf (st 8) benv bcode ⟨40, 0, 40, 13⟩ [topFrame default]) = some (.next, ⟨hp_8 w.params, #[], boot_drawn, 2246, os⟩, bcode, ⟨41, 0, 45, 23⟩) := by kernel_rfl
theorem piece_9 (w : World) (os : OsState) : segRun treeTable PR w 11 (some (.ref 6)) 1 10 ⟨hp_8 w.params, #[], boot_drawn, 2246, os⟩ (pieceOf (st 9) benv bcode ⟨41, 0, 45, 23⟩ [topFrame default]) = some (.next, ⟨hp_9 w.params, #[], boot_drawn, 2248, os⟩, bcode, ⟨46, 0, 46, 8⟩) := by kernel_rfl
theorem piece_11 (w : World) (os : OsState) : segRun treeTable PR w 11 (some (.ref 6)) 1 10 ⟨hp_10 w.params, #[], boot_drawn, 2351, os⟩ (pieceOf (st 11) benv bcode ⟨47, 0, 107, 16⟩ [topFrame default]) = some (.next, ⟨hp_11 w.params, #[], boot_drawn, 2353, os⟩, bcode, ⟨108, 0, 108, 8⟩) := by kernel_rfl
theorem piece_12 (w : World) (os : OsState) : segRun treeTable PR w 11 (some (.ref 6)) 1 43 ⟨hp_11 w.params, #[], boot_drawn, 2353, os⟩ (pieceOf (st 12) benv bcode ⟨108, 0, 108, 8⟩ [topFrame default]) = some (.next, ⟨hp_12 w.params, #[], boot_drawn, 2373, os⟩, bcode, ⟨109, 0, 119, 104⟩) := by kernel_rfl
theorem piece_13 (w : World) (os : OsState) : segRun treeTable PR w 11 (some (.ref 6)) 1 33 ⟨hp_12 w.params, #[], boot_drawn, 2373, os⟩ (pieceOf (st 13) benv bcode ⟨109, 0, 119, 104⟩ [topFrame default]) = some (.next, ⟨hp_13 w.params, #[], boot_drawn, 2383, os⟩, bcode, ⟨120, 0, 126, 16⟩) := by kernel_rfl
theorem piece_14 (w : World) (os : OsState) : segRun treeTable PR w 11 (some (.ref 6)) 1 27 ⟨hp_13 w.params, #[], boot_drawn, 2383, os⟩ (pieceOf (st 14) benv bcode ⟨120, 0, 126, 16⟩ [topFrame default]) = some (.next, ⟨hp_14 w.params, #[], boot_drawn, 2389, os⟩, bcode, ⟨127, 0, 128, 118⟩) := by kernel_rfl
theorem piece_15 (w : World) (os : OsState) : segRun treeTable PR w 11 (some (.ref 6)) 1 27 ⟨hp_14 w.params, #[], boot_drawn, 2389, os⟩ (pieceOf (st 15) benv bcode ⟨127, 0, 128, 118⟩ [topFrame default]) = some (.next, ⟨hp_15 w.params, #[], boot_drawn, 2395, os⟩, bcode, ⟨129, 0, 130, 99⟩) := by kernel_rfl
theorem piece_16 (w : World) (os : OsState) : segRun treeTable PR w 11 (some (.ref 6)) 1 33 ⟨hp_15 w.params, #[], boot_drawn, 2395, os⟩ (pieceOf (st 16) benv bcode ⟨129, 0, 130, 99⟩ [topFrame default]) = some (.next, ⟨hp_16 w.params, #[], boot_drawn, 2405, os⟩, bcode, ⟨131, 0, 138, 13⟩) := by kernel_rfl
theorem piece_17 (w : World) (os : OsState) : segRun treeTable PR w 11 (some (.ref 6)) 1 27 ⟨hp_16 w.params, #[], boot_drawn, 2405, os⟩ (pieceOf (st 17) benv bcode ⟨131, 0, 138, 13⟩ [topFrame default]) = some (.next, ⟨hp_17 w.params, #[], boot_drawn, 2411, os⟩, bcode, ⟨139, 0, 169, 15⟩) := by kernel_rfl
end Mine.H
end
section
open PySem PySem.Calls PyProof.Rows PySem.W
set_option maxRecDepth 100000
set_option maxHeartbeats 0
namespace Mine.H
theorem piece_10 : ∀ (w : World) (os : OsState), segRun treeTable PR w 11 (some (.ref 6)) 1 496 ⟨hp_9 w.params, #[], boot_drawn, 2248, os⟩ (pieceOf (st 10) benv bcode ⟨46, 0, 46, 8⟩ [topFrame default]) = some (.next, ⟨hp_10 w.params, #[], boot_drawn, 2351, os⟩, bcode, ⟨47, 0, 107, 16⟩) := by
  all_goals refine byRow2 "special-get-raises" ?_ ?_
  all_goals (intro w os; rw [PySem.W.Fast.te14374325043358763698, PySem.W.Fast.te14364793385576792824]; kernel_rfl)
end Mine.H
end
section
open PySem PySem.Calls PyProof.Rows PySem.W
set_option maxRecDepth 100000
set_option maxHeartbeats 0
namespace Mine.H
noncomputable def QV : Program := view PR [17]
noncomputable def loose : List Str := PR.boundNames.filter fun n => n != "law"
noncomputable abbrev S17 (w : World) (os : OsState) : Shared := ⟨hp_17 w.params, #[], boot_drawn, 2411, os⟩
theorem look_1 (w : World) : staticsOk (importedModules PR.main.body) (boot_heap w.params) (hp_17 w.params) = true := by kernel_rfl
theorem look_2 (w : World) : namesBound PR (hp_17 w.params) = true := by kernel_rfl
theorem look_3 (w : World) : laidKept (boot_heap w.params) (hp_17 w.params) = true := by kernel_rfl
theorem look_4 (w : World) (os : OsState) : seen ((recsOf QV).map (·.name)) (ownsOf QV) [] (S17 w os) = expectedOf QV := by kernel_rfl
theorem look_5 (w : World) : (hp_17 w.params).bltView = bltViewBooted := by kernel_rfl
theorem look_6 (w : World) : (hp_17 w.params).keysOk (looseW QV loose) ((recsOf QV).map (·.name)) ((litsOf QV).map (·.1)) ((clssOf QV (looseW QV loose)).map (·.name)) = true := by kernel_rfl
theorem look_7 (w : World) : (hp_17 w.params).accountedOkI (importedModules PR.main.body) = true := by kernel_rfl
theorem look_8 (w : World) : ((hp_17 w.params).isNs mainGlobals && (hp_17 w.params).isNs builtinsNs && tablesOk QV (hp_17 w.params)) = true := by kernel_rfl
theorem look_9 (w : World) (os : OsState) : tabsOk QV (S17 w os) = true := by kernel_rfl
theorem look_10 (w : World) (os : OsState) : pinSeenD QV (drecsOf QV) (S17 w os) = pinGoodD (drecsOf QV) := by kernel_rfl
theorem look_11 (w : World) (os : OsState) : plainSeenE QV (looseW QV loose) (S17 w os) = plainGoodE QV (looseW QV loose) := by kernel_rfl
theorem look_12 (w : World) (os : OsState) : plainSeenD QV loose (S17 w os) = plainGoodD QV loose := by kernel_rfl
theorem look_13 (w : World) (os : OsState) : wideSeen QV (S17 w os) = wideGood QV := by kernel_rfl
theorem look_14 (w : World) (os : OsState) : clsSeenW QV loose (S17 w os) = clsGoodW QV loose := by kernel_rfl
end Mine.H
end
section
open PySem PySem.Calls PyProof.Rows PySem.W
set_option maxRecDepth 100000
set_option maxHeartbeats 400000
namespace Mine.H
noncomputable abbrev run (w : World) (n : Nat) (s : Shared) (t : Thread) := segRun treeTable PR w 11 (some (.ref 6)) 1 n s t
theorem run_step {w : World} {n : Nat} {s s' : Shared} {t t' : Thread} (he : endAt 1 t = none) (hk : stepOk 11 (some (.ref 6)) t = true) (hs : step (denote treeTable) PR w s t = .go s' t') : run w (n + 1) s t = run w n s' t' := by
  show (match endAt 1 t with
    | some f => some (f, s, t.code, t.pos)
    | none => match stepOk 11 (some (.ref 6)) t with
      | false => none
      | true => match step (denote treeTable) PR w s t with
        | .go s' t' => run w n s' t'
        | .halt _ _ => none) = _
  rw [he, hk, hs]
noncomputable def Go (w : World) (k : Nat) {α : Type} (m : Sem α) (s : Shared) (v : α) (s' : Shared) : Prop :=
  ∀ (K : α → Sem Fin) (H : Value → Sem Fin) (gd : Bool → Bool) (lv : List Value → List Value) (q : Pos), ∃ q', ∀ N, run w (N + k) s ⟨m.wrap K H gd lv, bcode, q, [topFrame default]⟩ = run w N s' ⟨K v, bcode, q', [topFrame default]⟩
section
variable {w : World} {α β : Type} {s s₁ s' : Shared} {k a b : Nat} {v : α}
theorem go_pure : Go w 0 (.pure v) s v s := fun _ _ _ _ q => ⟨q, fun _ => rfl⟩
theorem go_pure' : Go w 0 (pure v : Sem α) s v s := go_pure
theorem go_bind {m : Sem α} {f : α → Sem β} {x : α} {y : β} (h1 : Go w a m s x s₁) (h2 : Go w b (f x) s₁ y s') : Go w (b + a) (m >>= f) s y s' := by
  intro K H gd lv q
  rw [Sem.bind_eq_wrap', Sem.wrap_wrap]
  obtain ⟨q1, e1⟩ := h1 (fun a => (f a).wrap K H gd lv) (fun e => (Sem.raise e : Sem β).wrap K H gd lv) (fun g => gd (id g)) (fun l => lv (id l)) q
  obtain ⟨q2, e2⟩ := h2 K H gd lv q1
  exact ⟨q2, fun N => by rw [← Nat.add_assoc]; exact (e1 (N + b)).trans (e2 N)⟩
theorem go_bind0 {m : Sem α} {f : α → Sem β} {x : α} {y : β} (h1 : Go w a m s x s₁) (h2 : Go w 0 (f x) s₁ y s') : Go w a (m >>= f) s y s' := by
  have := go_bind h1 h2
  rwa [Nat.zero_add] at this
theorem go_keep {m : Sem α} {l : List Value} (h : Go w k m s v s') : Go w k (m.keep l) s v s' := by
  intro K H gd lv q
  rw [Sem.keep_eq_wrap, Sem.wrap_wrap]
  exact h _ _ _ _ q
theorem go_holding {m : Sem α} {l : List Value} (h : Go w k m s v s') : Go w k (holding l m) s v s' := by
  unfold holding
  split
  · exact h
  · exact go_keep h
theorem go_onRaise {m : Sem α} {f : Value → Sem Unit} (h : Go w k m s v s') : Go w k (m.onRaise f) s v s' := by
  intro K H gd lv q
  rw [Sem.onRaise_eq_wrap, Sem.wrap_wrap]
  exact h _ _ _ _ q
theorem go_rule {t : String} {c : Unit → Sem α} (h : Go w k (c ()) s v s') : Go w (k + 1) (.rule t c) s v s' := by
  intro K H gd lv q
  obtain ⟨q', e⟩ := h K H gd lv q
  refine ⟨q', fun N => (run_step rfl rfl ?_).trans (e N)⟩
  obtain ⟨heap, gens, drawn, toks, os⟩ := s
  rfl
theorem go_at {p : Pos} {c : Unit → Sem α} (h : Go w k (c ()) s v s') : Go w (k + 1) (.at p c) s v s' := by
  intro K H gd lv q
  obtain ⟨q', e⟩ := h K H gd lv p
  refine ⟨q', fun N => (run_step rfl rfl ?_).trans (e N)⟩
  obtain ⟨heap, gens, drawn, toks, os⟩ := s
  rfl
theorem go_fresh {c : Tok → Sem α} (h : Go w k (c s.toks) { s with toks := s.toks + 1 } v s') : Go w (k + 1) (.fresh c) s v s' := by
  intro K H gd lv q
  obtain ⟨q', e⟩ := h K H gd lv q
  refine ⟨q', fun N => (run_step rfl rfl ?_).trans (e N)⟩
  obtain ⟨heap, gens, drawn, toks, os⟩ := s
  rfl
theorem go_alloc {o : Obj} {c : Addr → Sem α} (h : Go w k (c s.heap.objs.size) { s with heap := s.heap.push o } v s') : Go w (k + 1) (.alloc o c) s v s' := by
  intro K H gd lv q
  obtain ⟨q', e⟩ := h K H gd lv q
  refine ⟨q', fun N => (run_step rfl rfl ?_).trans (e N)⟩
  obtain ⟨heap, gens, drawn, toks, os⟩ := s
  rfl
theorem go_load {x : Addr} {part : Option Value} {o : Obj} {c : Obj → Sem α} (ho : s.heap.get? x = some o) (h : Go w k (c o) s v s') : Go w (k + 1) (.load x part c) s v s' := by
  intro K H gd lv q
  obtain ⟨q', e⟩ := h K H gd lv q
  refine ⟨q', fun N => (run_step rfl rfl ?_).trans (e N)⟩
  obtain ⟨heap, gens, drawn, toks, os⟩ := s
  simp only [Sem.wrap, step, show heap.get? x = some o from ho]
theorem go_update {x : Addr} {part : Option Value} {f : Obj → Obj} {o : Obj} {c : Unit → Sem α} (hx : 11 ≤ x) (ho : s.heap.get? x = some o) (h : Go w k (c ()) { s with heap := s.heap.update x f } v s') : Go w (k + 1) (.update x part f c) s v s' := by
  intro K H gd lv q
  obtain ⟨q', e⟩ := h K H gd lv q
  refine ⟨q', fun N => (run_step rfl ?_ ?_).trans (e N)⟩
  · show (true && (Nat.ble 11 x || _ || _ || _)) = true
    rw [Nat.ble_eq.mpr hx]; rfl
  obtain ⟨heap, gens, drawn, toks, os⟩ := s
  simp only [Sem.wrap, step, show heap.get? x = some o from ho, Option.isSome_some, if_true]
end
theorem hash_steps {i : Int} {t : Tok} : ∀ (w : World) (s : Shared) (K : Int → Sem Fin) (H : Value → Sem Fin) (gd : Bool → Bool) (lv : List Value → List Value) (q : Pos) (N : Nat),
    run w (N + 5) s ⟨(pyHash (.int i t)).wrap K H gd lv, bcode, q, [topFrame default]⟩ = run w N { s with toks := s.toks + 1 } ⟨(pyHashByItsType.reduced (rawHash i)).wrap K H gd lv, bcode, q, [topFrame default]⟩ := by
  refine byRow2 "special-get-raises" ?_ ?_
  · intro w ⟨heap, gens, drawn, toks, os⟩ K H gd lv q N
    kernel_rfl
  · intro w ⟨heap, gens, drawn, toks, os⟩ K H gd lv q N
    kernel_rfl
end Mine.H
end
section
open PySem PySem.Calls PyProof.Rows PySem.W
set_option maxRecDepth 100000
set_option maxHeartbeats 400000
namespace Mine.H
noncomputable def dO (es : List DictEntry) (n : Nat) : Obj := { cls := .type "dict", data := .dict es.toArray n }
noncomputable def hL (l : List Obj) : Heap := ⟨l.toArray, boot_life⟩
noncomputable def sL (l : List Obj) (tk : Nat) (os : OsState) : Shared := ⟨hL l, #[], boot_drawn, tk, os⟩
section
variable {w : World} {α β : Type} {s s₁ s' : Shared} {k a b : Nat} {v : α} {A B : List Obj} {es : List DictEntry} {n tk : Nat} {os : OsState} {i : Int} {t : Tok}
theorem get_mid : (hL (A ++ dO es n :: B)).get? A.length = some (dO es n) := by
  have e : (hL (A ++ dO es n :: B)).objs[A.length]? = some (dO es n) := by simp [hL]
  unfold Heap.get?
  rw [e]; rfl
theorem modify_mid {γ : Type} {o : γ} {f : γ → γ} {Q : List γ} : ∀ (P : List γ), (P ++ o :: Q).modify P.length f = P ++ f o :: Q
  | [] => rfl
  | x :: P => by
    rw [List.cons_append, List.length_cons, List.modify_succ_cons, modify_mid P, List.cons_append]
theorem upd_mid {o : Obj} {f : Obj → Obj} : (hL (A ++ o :: B)).update A.length f = hL (A ++ f o :: B) := by
  unfold Heap.update hL
  simp [modify_mid]
theorem push_end {o : Obj} {l : List Obj} : (hL l).push o = hL (l ++ [o]) := by
  unfold Heap.push hL
  simp
theorem reduced_small {i : Int} (h0 : 0 ≤ i) (h1 : i < 2000000) : pyHashByItsType.reduced (rawHash i) = .pure i := by
  obtain ⟨m, rfl⟩ := Int.eq_ofNat_of_zero_le h0
  have hr : rawHash (m : Int) = (m : Int) := by
    unfold rawHash
    have h2 : ((m : Int).natAbs : Int) % ((2 ^ 61 - 1 : Nat) : Int) = (m : Int) := by
      rw [Int.natAbs_natCast]
      exact Int.emod_eq_of_lt (by omega) (by omega)
    have h3 : ((m : Int) == -1) = false := beq_eq_false_iff_ne.mpr (by omega)
    have hi : (if (m : Int) < 0 then -(m : Int) else (m : Int)) = (m : Int) := if_neg (by omega)
    dsimp only
    rw [h2, hi, h3]
    rfl
  rw [hr]
  unfold pyHashByItsType.reduced
  have h2 : (decide (-(2 : Int) ^ 63 ≤ (m : Int)) && decide ((m : Int) < 2 ^ 63)) = true := by simp; omega
  have h3 : ((m : Int) == -1) = false := beq_eq_false_iff_ne.mpr (by omega)
  rw [if_pos h2, h3]
  rfl
theorem go_hash (h0 : 0 ≤ i) (h1 : i < 2000000) : Go w 5 (pyHash (.int i t)) s i { s with toks := s.toks + 1 } := by
  intro K H gd lv q
  refine ⟨q, fun N => (hash_steps w s K H gd lv q N).trans ?_⟩
  rw [reduced_small h0 h1]; rfl
theorem go_loadPart {x : Addr} {part : Option Value} {o : Obj} (ho : s.heap.get? x = some o) : Go w 1 (loadPart x part) s o s := go_load ho go_pure
theorem go_entries {x : Addr} {part : Option Value} (ho : s.heap.get? x = some (dO es n)) : Go w 1 (dictEntries x part) s es.toArray s := go_bind (go_loadPart ho) go_pure
theorem go_epoch {x : Addr} {part : Option Value} (ho : s.heap.get? x = some (dO es n)) : Go w 1 (dictEpoch x part) s n s := go_bind (go_loadPart ho) go_pure
theorem go_find {x : Addr} {h : Int} (ho : s.heap.get? x = some (dO es n)) (hf : ∀ e ∈ es, e.hash ≠ h) : Go w 1 (dictFind x (.int i t) h) s none s := by
  have hp : placesWithHash es.toArray.size (fun i => es.toArray[i]?.map (·.hash)) h = [] := by
    unfold placesWithHash
    rw [List.filter_eq_nil_iff]
    intro j hj
    simp only [List.getElem?_toArray, beq_iff_eq, Option.map_eq_some_iff, not_exists, not_and]
    intro e he
    exact hf e (List.mem_of_getElem? he)
  unfold dictFind
  refine go_holding (go_bind (b := 0) (go_entries ho) ?_)
  dsimp only
  rw [hp]
  exact go_pure
theorem go_put {e : DictEntry} (hx : 11 ≤ A.length) (hs : es.length < 1000) (part : Option Value) :
    Go w 3 (updateDictKeys A.length (·.push e) part) (sL (A ++ dO es n :: B) tk os) () (sL (A ++ dO (es ++ [e]) (n + 1) :: B) tk os) := by
  unfold updateDictKeys
  refine go_bind (a := 1) (b := 2) (go_loadPart get_mid) ?_
  show Go w 2 (updatePart A.length part _ >>= fun _ => lookBehind A.length part) _ _ _
  have e1 : (sL (A ++ dO es n :: B) tk os).heap.update A.length (Obj.mapDictKeys (·.push e)) = (sL (A ++ dO (es ++ [e]) (n + 1) :: B) tk os).heap := by
    show (hL _).update _ _ = hL _
    rw [upd_mid]
    congr 2
    simp [dO, Obj.mapDictKeys]
  refine go_bind (a := 1) (b := 1) (s₁ := sL (A ++ dO (es ++ [e]) (n + 1) :: B) tk os) (x := ()) (go_update hx get_mid ?_) ?_
  · rw [e1]; exact go_pure
  · unfold lookBehind
    refine go_bind (a := 1) (b := 0) (go_loadPart get_mid) ?_
    have : (dO (es ++ [e]) (n + 1)).data.pastItsLine = none := by
      simp only [dO, Data.pastItsLine]
      rw [if_neg]
      simp [sizeLine]; omega
    rw [this]
    exact go_pure
end
end Mine.H
end
section
open PySem PySem.Calls PyProof.Rows PySem.W
set_option maxRecDepth 100000
set_option maxHeartbeats 400000
namespace Mine.H
noncomputable def keyE (p : Int × Str) : Sem Value := mkInt p.1
noncomputable def valE (ps : Pos) (p : Int × Str) : Sem Value := do let x ← mkText p.2; standAt ps; pure x
noncomputable def prE (ps : Pos) (p : Int × Str) : Sem Value × Sem Value := (keyE p, valE ps p)
noncomputable def fitL (l : List (Int × Str)) : Prop := (∀ p ∈ l, 0 ≤ p.1 ∧ p.1 < 2000000) ∧ (l.map (·.1)).Nodup
section
variable {w : World} {s s₁ s' : Shared} {k a b : Nat} {A B : List Obj} {es : List DictEntry} {n tk : Nat} {os : OsState} {i : Int} {t u : Tok} {ps : Pos} {p : Int × Str} {x : Str}
theorem go_mkInt : Go w 1 (mkInt i) (sL A tk os) (.int i tk) (sL A (tk + 1) os) := go_bind (a := 1) (b := 0) (go_fresh go_pure) go_pure
theorem go_val : Go w 2 (valE ps p) (sL A tk os) (.str p.2 tk) (sL A (tk + 1) os) :=
  go_bind (a := 1) (b := 1) (go_bind (a := 1) (b := 0) (go_fresh go_pure) go_pure) (go_bind (a := 1) (b := 0) (go_at go_pure) go_pure)
theorem go_set (hx : 11 ≤ A.length) (hs : es.length < 1000) (h0 : 0 ≤ i) (h1 : i < 2000000) (hf : ∀ e ∈ es, e.hash ≠ i) :
    Go w 10 (dictSet A.length (.int i t) (.str x u)) (sL (A ++ dO es n :: B) tk os) () (sL (A ++ dO (es ++ [⟨i, .int i t, .str x u⟩]) (n + 1) :: B) (tk + 1) os) := by
  unfold dictSet
  refine go_holding (go_bind (a := 5) (b := 5) (go_hash h0 h1) ?_)
  unfold dictSetHashed
  refine go_holding (go_bind (a := 1) (b := 4) (go_find (s := sL (A ++ dO es n :: B) (tk + 1) os) get_mid hf) ?_)
  exact go_bind (a := 1) (b := 3) (go_rule go_pure) (go_put (tk := tk + 1) (e := ⟨i, .int i t, .str x u⟩) hx hs _)
theorem entL_fresh {d : Nat} : ∀ {l : List (Int × Str)} {t : Nat} {e : DictEntry}, e ∈ entL d t l → ∃ p ∈ l, e.hash = p.1
  | [], _, _, h => by simp [entL] at h
  | p :: l, t, e, h => by
    simp only [entL, List.mem_cons] at h
    rcases h with rfl | h
    · exact ⟨p, List.mem_cons_self, rfl⟩
    · obtain ⟨q, hq, e⟩ := entL_fresh h
      exact ⟨q, List.mem_cons_of_mem _ hq, e⟩
theorem entL_append {d : Nat} : ∀ {l r : List (Int × Str)} {t : Nat}, entL d t (l ++ r) = entL d t l ++ entL d (t + d * l.length) r
  | [], r, t => by simp [entL]
  | p :: l, r, t => by
    simp only [List.cons_append, entL, List.length_cons, entL_append]
    rw [show t + d * (l.length + 1) = t + d + d * l.length by rw [Nat.mul_add, Nat.mul_one]; omega]
theorem entL_length {d : Nat} : ∀ {l : List (Int × Str)} {t : Nat}, (entL d t l).length = l.length
  | [], _ => rfl
  | _ :: l, t => by simp [entL, entL_length]
noncomputable def longBody (d : Addr) (p : Sem Value × Sem Value) (r : PUnit) : Sem (ForInStep PUnit) := do
  let kv ← p.1
  let vv ← holding [kv] p.2
  holding [kv, vv] (dictSet d kv vv)
  pure (ForInStep.yield r)
theorem go_long (hx : 11 ≤ A.length) {B : List Obj} : ∀ (l : List (Int × Str)) (es : List DictEntry) (n tk : Nat), fitL l → es.length + l.length < 1000 → (∀ e ∈ es, ∀ p ∈ l, e.hash ≠ p.1) →
    Go w (13 * l.length) (forIn (l.map (prE ps)) PUnit.unit (longBody A.length)) (sL (A ++ dO es n :: B) tk os) PUnit.unit (sL (A ++ dO (es ++ entL 3 tk l) (n + l.length) :: B) (tk + 3 * l.length) os)
  | [], es, n, tk, _, _, _ => by simp only [List.map_nil, List.forIn_nil, entL, List.append_nil, List.length_nil, Nat.mul_zero, Nat.add_zero]; exact go_pure'
  | p :: l, es, n, tk, hf, hs, hd => by
    obtain ⟨f1, f2⟩ := hf
    simp only [List.map_cons, List.nodup_cons, List.length_cons] at f2 hs
    have hp := f1 p List.mem_cons_self
    rw [List.map_cons, List.forIn_cons]
    have ih := go_long hx (B := B) l (es ++ [⟨p.1, .int p.1 tk, .str p.2 (tk + 1)⟩]) (n + 1) (tk + 3) ⟨fun q hq => f1 q (List.mem_cons_of_mem _ hq), f2.2⟩ (by simp; omega) (by
      intro e he q hq
      rcases List.mem_append.mp he with he | he
      · exact hd e he q (List.mem_cons_of_mem _ hq)
      · simp only [List.mem_singleton] at he
        subst he
        exact fun z => f2.1 (List.mem_map.mpr ⟨q, hq, z.symm⟩))
    have e1 : es ++ entL 3 tk (p :: l) = es ++ [⟨p.1, .int p.1 tk, .str p.2 (tk + 1)⟩] ++ entL 3 (tk + 3) l := by simp [entL]
    rw [e1, show n + (p :: l).length = n + 1 + l.length by simp; omega, show tk + 3 * (p :: l).length = tk + 3 + 3 * l.length by simp; omega, show 13 * (p :: l).length = 13 * l.length + 13 by simp; omega]
    refine go_bind (a := 13) (x := ForInStep.yield PUnit.unit) (s₁ := sL (A ++ dO (es ++ [⟨p.1, .int p.1 tk, .str p.2 (tk + 1)⟩]) (n + 1) :: B) (tk + 3) os) ?_ ih
    unfold longBody prE keyE
    refine go_bind (a := 1) (b := 12) go_mkInt (go_bind (a := 2) (b := 10) (go_holding go_val) (go_bind (a := 10) (b := 0) (go_holding (go_set hx (by omega) hp.1 hp.2 fun e he => hd e he p List.mem_cons_self)) go_pure'))
theorem go_subLong {l : List (Int × Str)} (hx : 11 ≤ A.length) (hl : 15 < l.length) (hs : l.length < 1000) (hf : fitL l) :
    Go w (13 * l.length + 2) (subDict (l.map (prE ps))) (sL A tk os) A.length (sL (A ++ [dO (entL 3 tk l) l.length]) (tk + 3 * l.length) os) := by
  unfold subDict
  have hsz : (sL A tk os).heap.objs.size = A.length := by simp [sL, hL]
  refine go_bind (a := 1) (b := 13 * l.length + 1) (x := A.length) (s₁ := sL (A ++ [dO [] 0]) tk os) ?_ ?_
  · refine go_alloc ?_
    rw [hsz]
    have e : (sL A tk os).heap.push { cls := .type "dict", data := .dict #[] } = hL (A ++ [dO [] 0]) := push_end
    rw [e]
    exact go_pure
  · refine go_bind0 (x := ()) (go_holding ?_) go_pure'
    rw [if_neg (by simp; omega)]
    refine go_bind (a := 1) (b := 13 * l.length) (x := ()) (go_rule go_pure) ?_
    have := go_long (w := w) (ps := ps) (os := os) hx (B := []) l [] 0 tk hf (by simpa using hs) (fun e he => (by cases he))
    simp only [List.nil_append, Nat.zero_add] at this
    exact go_bind0 this go_pure'
end
end Mine.H
end
section
open PySem PySem.Calls PyProof.Rows PySem.W
set_option maxRecDepth 100000
set_option maxHeartbeats 400000
namespace Mine.H
noncomputable def vL : Nat → List (Int × Str) → List (Value × Value)
  | _, [] => []
  | t, p :: r => (.int p.1 t, .str p.2 (t + 1)) :: vL (t + 2) r
section
variable {w : World} {s s₁ s' : Shared} {k a b : Nat} {A B : List Obj} {es : List DictEntry} {n tk : Nat} {os : OsState} {i : Int} {t u : Tok} {ps : Pos} {p : Int × Str} {x : Str}
theorem go_evalPairs : ∀ (l : List (Int × Str)) (tk : Nat), Go w (3 * l.length) (evalPairs (l.map (prE ps))) (sL A tk os) (vL tk l) (sL A (tk + 2 * l.length) os)
  | [], tk => go_pure'
  | p :: l, tk => by
    have ih := go_evalPairs l (tk + 2)
    rw [show 3 * (p :: l).length = 3 * l.length + 2 + 1 by simp; omega, show tk + 2 * (p :: l).length = tk + 2 + 2 * l.length by simp; omega]
    show Go w _ (do let kv ← keyE p; let vv ← holding [kv] (valE ps p); return (kv, vv) :: (← holding [kv, vv] (evalPairs (l.map (prE ps))))) _ _ _
    exact go_bind (a := 1) go_mkInt (go_bind (a := 2) (go_holding go_val) (go_bind0 (go_holding ih) go_pure'))
noncomputable def shortBody (d : Addr) (x : Value × Value) (_ : PUnit) : Sem (ForInStep PUnit) := match x with
  | (k, v) => do
    dictSet d k v
    pure (ForInStep.yield PUnit.unit)
theorem go_short (hx : 11 ≤ A.length) {B : List Obj} : ∀ (l : List (Int × Str)) (es : List DictEntry) (n tk tv : Nat), fitL l → es.length + l.length < 1000 → (∀ e ∈ es, ∀ p ∈ l, e.hash ≠ p.1) →
    Go w (10 * l.length) (forIn (vL tv l) PUnit.unit (shortBody A.length)) (sL (A ++ dO es n :: B) tk os) PUnit.unit (sL (A ++ dO (es ++ entL 2 tv l) (n + l.length) :: B) (tk + l.length) os)
  | [], es, n, tk, tv, _, _, _ => by simp only [vL, List.forIn_nil, entL, List.append_nil, List.length_nil, Nat.mul_zero, Nat.add_zero]; exact go_pure'
  | p :: l, es, n, tk, tv, hf, hs, hd => by
    obtain ⟨f1, f2⟩ := hf
    simp only [List.map_cons, List.nodup_cons, List.length_cons] at f2 hs
    have hp := f1 p List.mem_cons_self
    rw [vL, List.forIn_cons]
    have ih := go_short hx (B := B) l (es ++ [⟨p.1, .int p.1 tv, .str p.2 (tv + 1)⟩]) (n + 1) (tk + 1) (tv + 2) ⟨fun q hq => f1 q (List.mem_cons_of_mem _ hq), f2.2⟩ (by simp; omega) (by
      intro e he q hq
      rcases List.mem_append.mp he with he | he
      · exact hd e he q (List.mem_cons_of_mem _ hq)
      · simp only [List.mem_singleton] at he
        subst he
        exact fun z => f2.1 (List.mem_map.mpr ⟨q, hq, z.symm⟩))
    have e1 : es ++ entL 2 tv (p :: l) = es ++ [⟨p.1, .int p.1 tv, .str p.2 (tv + 1)⟩] ++ entL 2 (tv + 2) l := by simp [entL]
    rw [e1, show n + (p :: l).length = n + 1 + l.length by simp; omega, show tk + (p :: l).length = tk + 1 + l.length by simp; omega, show 10 * (p :: l).length = 10 * l.length + 10 by simp; omega]
    refine go_bind (a := 10) (x := ForInStep.yield PUnit.unit) (s₁ := sL (A ++ dO (es ++ [⟨p.1, .int p.1 tv, .str p.2 (tv + 1)⟩]) (n + 1) :: B) (tk + 1) os) ?_ ih
    unfold shortBody
    exact go_bind0 (go_set hx (by omega) hp.1 hp.2 fun e he => hd e he p List.mem_cons_self) go_pure'
theorem go_subShort {l : List (Int × Str)} (hx : 11 ≤ A.length) (hl : l.length ≤ 15) (hf : fitL l) :
    Go w (10 * l.length + 3 * l.length + 1) (subDict (l.map (prE ps))) (sL A tk os) A.length (sL (A ++ [dO (entL 2 tk l) l.length]) (tk + 2 * l.length + l.length) os) := by
  unfold subDict
  have hsz : (sL A tk os).heap.objs.size = A.length := by simp [sL, hL]
  refine go_bind (a := 1) (x := A.length) (s₁ := sL (A ++ [dO [] 0]) tk os) ?_ ?_
  · refine go_alloc ?_
    rw [hsz]
    have e : (sL A tk os).heap.push { cls := .type "dict", data := .dict #[] } = hL (A ++ [dO [] 0]) := push_end
    rw [e]
    exact go_pure
  · refine go_bind0 (x := ()) (go_holding ?_) go_pure'
    rw [if_pos (by simpa using hl)]
    refine go_bind (a := 3 * l.length) (go_evalPairs l tk) (go_holding ?_)
    have := go_short (w := w) (os := os) hx (B := []) l [] 0 (tk + 2 * l.length) tk hf (by simp; omega) (fun e he => (by cases he))
    simp only [List.nil_append, Nat.zero_add] at this
    exact go_bind0 this go_pure'
noncomputable def mergeBody (d a : Addr) (epoch : Nat) (i : Nat) (_ : PUnit) : Sem (ForInStep PUnit) := do
  let some e := (← dictEntries a)[i]? | unsupported "dict.changed-during-merge"
  holding [e.key, e.val] do
    dictPut d e.hash e.key e.val
  if (← dictEpoch a) != epoch then unsupported "dict.changed-during-merge"
  pure (ForInStep.yield PUnit.unit)
theorem go_mergeLoop (hx : 11 ≤ A.length) {M : List Obj} {fs : List DictEntry} {k : Nat} {tq : Nat} {d : Nat} : ∀ (l : List (Int × Str)) (f0 es : List DictEntry) (n tv : Nat), fs = f0 ++ entL d tv l → fitL l → es.length + l.length < 1000 → (∀ e ∈ es, ∀ p ∈ l, e.hash ≠ p.1) →
    Go w (6 * l.length) (forIn (List.range' f0.length l.length) PUnit.unit (mergeBody A.length (A.length + 1 + M.length) k)) (sL (A ++ dO es n :: (M ++ [dO fs k])) tq os) PUnit.unit (sL (A ++ dO (es ++ entL d tv l) (n + l.length) :: (M ++ [dO fs k])) tq os)
  | [], f0, es, n, tv, _, _, _, _ => by simp only [List.length_nil, List.range'_zero, List.forIn_nil, entL, List.append_nil, Nat.mul_zero, Nat.add_zero]; exact go_pure'
  | p :: l, f0, es, n, tv, he, hf, hs, hd => by
    obtain ⟨f1, f2⟩ := hf
    simp only [List.map_cons, List.nodup_cons, List.length_cons] at f2 hs
    have hp := f1 p List.mem_cons_self
    rw [List.length_cons, List.range'_succ, List.forIn_cons]
    have he' : fs = (f0 ++ [⟨p.1, .int p.1 tv, .str p.2 (tv + 1)⟩]) ++ entL d (tv + d) l := by rw [he]; simp [entL]
    have ih := go_mergeLoop hx (M := M) (fs := fs) (k := k) (tq := tq) (d := d) l (f0 ++ [⟨p.1, .int p.1 tv, .str p.2 (tv + 1)⟩]) (es ++ [⟨p.1, .int p.1 tv, .str p.2 (tv + 1)⟩]) (n + 1) (tv + d) he' ⟨fun q hq => f1 q (List.mem_cons_of_mem _ hq), f2.2⟩ (by simp; omega) (by
      intro e he q hq
      rcases List.mem_append.mp he with he | he
      · exact hd e he q (List.mem_cons_of_mem _ hq)
      · simp only [List.mem_singleton] at he
        subst he
        exact fun z => f2.1 (List.mem_map.mpr ⟨q, hq, z.symm⟩))
    have e1 : es ++ entL d tv (p :: l) = es ++ [⟨p.1, .int p.1 tv, .str p.2 (tv + 1)⟩] ++ entL d (tv + d) l := by simp [entL]
    rw [e1, show n + (l.length + 1) = n + 1 + l.length by omega, show 6 * (l.length + 1) = 6 * l.length + 6 by omega]
    rw [List.length_append, List.length_singleton] at ih
    have g1 : ∀ (es : List DictEntry) (n : Nat), (sL (A ++ dO es n :: (M ++ [dO fs k])) tq os).heap.get? (A.length + 1 + M.length) = some (dO fs k) := fun es n => by
      have := get_mid (A := A ++ dO es n :: M) (B := []) (es := fs) (n := k)
      simp only [List.length_append, List.length_cons, List.append_assoc, List.cons_append] at this
      rw [show A.length + 1 + M.length = A.length + (M.length + 1) by omega]
      exact this
    refine go_bind (a := 6) (x := ForInStep.yield PUnit.unit) (s₁ := sL (A ++ dO (es ++ [⟨p.1, .int p.1 tv, .str p.2 (tv + 1)⟩]) (n + 1) :: (M ++ [dO fs k])) tq os) ?_ ih
    unfold mergeBody
    have hi : fs.toArray[f0.length]? = some ⟨p.1, .int p.1 tv, .str p.2 (tv + 1)⟩ := by rw [he]; simp [entL]
    refine go_bind (a := 1) (b := 5) (go_entries (g1 _ _)) ?_
    rw [hi]
    dsimp only
    refine go_bind (a := 4) (b := 1) (x := ()) (s₁ := sL (A ++ dO (es ++ [⟨p.1, .int p.1 tv, .str p.2 (tv + 1)⟩]) (n + 1) :: (M ++ [dO fs k])) tq os) (go_holding ?_) (go_bind0 (go_epoch (g1 _ _)) ?_)
    · unfold dictPut
      exact go_bind (a := 1) (b := 3) (go_find get_mid fun e he => hd e he p List.mem_cons_self) (go_put hx (by omega) _)
    · simp only [bne_self_eq_false, Bool.false_eq_true, if_false]; exact go_pure'
end
end Mine.H
end
section
open PySem PySem.Calls PyProof.Rows PySem.W
set_option maxRecDepth 100000
set_option maxHeartbeats 400000
namespace Mine.H
theorem sub_dict : isSubtype (.type "dict") (.type "dict") = (pure true : Sem Bool) := by kernel_rfl
theorem iter_dict : typeLookup (.type "dict") "__iter__" = (pure (some (.builtin "dict.__iter__")) : Sem (Option Value)) := by kernel_rfl
section
variable {w : World} {s s₁ s' : Shared} {k a b : Nat} {A B : List Obj} {es : List DictEntry} {n tk : Nat} {os : OsState} {i : Int} {t u : Tok} {ps : Pos} {p : Int × Str} {x : Str}
theorem go_typeOf {x : Addr} (ho : s.heap.get? x = some (dO es n)) : Go w 1 (typeOf (.ref x)) s (.type "dict") s := go_bind (a := 1) (b := 0) (go_load ho go_pure) go_pure
theorem go_merge (hx : 11 ≤ A.length) {M : List Obj} {l : List (Int × Str)} {d tv k n : Nat} {es : List DictEntry} (hne : es ≠ []) (hf : fitL l) (hs : es.length + l.length < 1000) (hd : ∀ e ∈ es, ∀ p ∈ l, e.hash ≠ p.1) :
    Go w (6 * l.length + 5) (mergeMapping A.length (.ref (A.length + 1 + M.length)) false) (sL (A ++ dO es n :: (M ++ [dO (entL d tv l) k])) tk os) () (sL (A ++ dO (es ++ entL d tv l) (n + l.length) :: (M ++ [dO (entL d tv l) k])) tk os) := by
  have g1 : (sL (A ++ dO es n :: (M ++ [dO (entL d tv l) k])) tk os).heap.get? (A.length + 1 + M.length) = some (dO (entL d tv l) k) := by
    have := get_mid (A := A ++ dO es n :: M) (B := []) (es := entL d tv l) (n := k)
    simp only [List.length_append, List.length_cons, List.append_assoc, List.cons_append] at this
    rw [show A.length + 1 + M.length = A.length + (M.length + 1) by omega]
    exact this
  unfold mergeMapping
  rw [show 6 * l.length + 5 = 6 * l.length + 1 + 1 + 1 + 2 by omega]
  refine go_bind (a := 1) (b := 6 * l.length + 4) (x := true) (s₁ := sL (A ++ dO es n :: (M ++ [dO (entL d tv l) k])) tk os) ?_ ?_
  · unfold isInstance
    refine go_bind0 (go_typeOf g1) ?_
    rw [sub_dict]; exact go_pure'
  rw [if_pos rfl]
  refine go_bind (a := 1) (b := 6 * l.length + 3) (s₁ := sL (A ++ dO es n :: (M ++ [dO (entL d tv l) k])) tk os) (x := some (.builtin "dict.__iter__")) ?_ ?_
  · unfold specialOf
    refine go_bind0 (go_typeOf g1) ?_
    rw [iter_dict]; exact go_pure'
  have hb : ((some (Value.builtin "dict.__iter__")) == some (Value.builtin "dict.__iter__")) = true := by simp
  have hz0 : ¬ ((A.length + 1 + M.length == sysModules) = true) := by
    rw [beq_iff_eq]
    intro z
    have : A.length + 1 + M.length = 1 := z
    omega
  dsimp only
  rw [hb]
  show Go w _ (if (A.length + 1 + M.length == sysModules) = true then _ else _) _ _ _
  rw [if_neg hz0]
  refine go_bind (a := 1) (go_entries get_mid) ?_
  rw [if_neg (by simpa using hne)]
  refine go_bind (a := 1) (go_entries g1) (go_bind (a := 1) (go_epoch g1) ?_)
  have hz : (entL d tv l).toArray.size = l.length := by simp [entL_length]
  rw [hz, List.range_eq_range']
  have := go_mergeLoop (w := w) (os := os) hx (M := M) (fs := entL d tv l) (k := k) (tq := tk) (d := d) l [] es n tv rfl hf hs hd
  exact go_bind0 this go_pure'
end
end Mine.H
end
section
open PySem PySem.Calls PyProof.Rows PySem.W
set_option maxRecDepth 100000
set_option maxHeartbeats 400000
namespace Mine.H
noncomputable abbrev Run := List (Sem Value × Sem Value)
noncomputable def flush (run : Run) (main : Option Addr) : Sem (Option Addr) :=
  if run.isEmpty = true then pure main
  else match main with
    | none => do
      let d ← subDict run
      pure (some d)
    | some d => do
      let sub ← holding [Value.ref d] (subDict run)
      (holding [Value.ref d, Value.ref sub] (mergeMapping d (Value.ref sub) false)).onRaise fun x => do
        let _ ← holding [Value.ref d, x] (runValue (Code.builtin "proto.let_go" {}))
        pure ()
      pure (some d)
noncomputable def dispBody (x : Option (Sem Value) × Sem Value) (s : Option Addr × Run) : Sem (ForInStep (Option Addr × Run)) :=
  match x.fst with
  | some k =>
    if ((s.snd ++ [(k, x.snd)]).length == 17) = true then do
      let main ← flush (s.snd ++ [(k, x.snd)]) s.fst
      pure (ForInStep.yield (main, []))
    else pure (ForInStep.yield (s.fst, s.snd ++ [(k, x.snd)]))
  | none => do
    let main ← flush s.snd s.fst
    match main with
      | some d => do
        let d ← pure d
        let m ← holding [Value.ref d] x.snd
        (((holding [Value.ref d, m] (mergeMapping d m false)).onRaise fun x => do
                    let _ ← holding [Value.ref d, m, x] (runValue (Code.builtin "proto.let_go" {}))
                    pure ()).tryCatch
                fun e => do
                let b ← isInstance e (Value.type "AttributeError")
                if b = true then do
                    rule "dict.display.not-a-mapping"
                    let n ← PySem.typeNameOf m
                    raiseErrorMade "TypeError" (toString "'" ++ toString n ++ toString "' object is not a mapping")
                    throw e
                  else throw e).onRaise
            fun x => do
            let _ ← holding [Value.ref d, x] (runValue (Code.builtin "proto.let_go" {}))
            pure ()
        pure (ForInStep.yield (some d, []))
      | none => do
        let d ← alloc { cls := Value.type "dict", data := Data.dict #[] }
        let m ← holding [Value.ref d] x.snd
        (((holding [Value.ref d, m] (mergeMapping d m false)).onRaise fun x => do
                    let _ ← holding [Value.ref d, m, x] (runValue (Code.builtin "proto.let_go" {}))
                    pure ()).tryCatch
                fun e => do
                let b ← isInstance e (Value.type "AttributeError")
                if b = true then do
                    rule "dict.display.not-a-mapping"
                    let n ← PySem.typeNameOf m
                    raiseErrorMade "TypeError" (toString "'" ++ toString n ++ toString "' object is not a mapping")
                    throw e
                  else throw e).onRaise
            fun x => do
            let _ ← holding [Value.ref d, x] (runValue (Code.builtin "proto.let_go" {}))
            pure ()
        pure (ForInStep.yield (some d, []))
theorem disp_is (l : List (Option (Sem Value) × Sem Value)) : dictDisplay l = (do
    let s ← forIn l (none, []) dispBody
    let m ← flush s.snd s.fst
    match m with
      | some d => pure (Value.ref d)
      | none => newDict) := rfl
noncomputable def itemsE (ps : Pos) (l : List (Int × Str)) : List (Option (Sem Value) × Sem Value) := l.map fun p => (some (keyE p), valE ps p)
section
variable {w : World} {s s₁ s' : Shared} {k a b : Nat} {A M : List Obj} {es : List DictEntry} {n tk : Nat} {os : OsState} {ps : Pos}
theorem go_chunk {rest : List (Option (Sem Value) × Sem Value)} {main m : Option Addr} {v : Option Addr × Run} : ∀ (l r : List (Int × Str)), l ≠ [] → r.length + l.length = 17 → Go w a (flush ((r ++ l).map (prE ps)) main) s m s₁ → Go w b (forIn rest (m, []) dispBody) s₁ v s' →
    Go w (b + a) (forIn (itemsE ps l ++ rest) (main, r.map (prE ps)) dispBody) s v s'
  | [], _, h, _, _, _ => absurd rfl h
  | p :: l, r, _, hl, h1, h2 => by
    rw [itemsE, List.map_cons, List.cons_append, List.forIn_cons]
    have hr : r.map (prE ps) ++ [(keyE p, valE ps p)] = (r ++ [p]).map (prE ps) := by simp [prE]
    cases l with
    | nil =>
      refine go_bind (a := a) (b := b) (x := ForInStep.yield (m, [])) (s₁ := s₁) ?_ h2
      simp only [dispBody]
      rw [hr, if_pos (by simp at hl ⊢; omega)]
      exact go_bind0 h1 go_pure'
    | cons p' l =>
      refine go_bind (a := 0) (b := b + a) (x := ForInStep.yield (main, (r ++ [p]).map (prE ps))) (s₁ := s) ?_ (go_chunk (p' :: l) (r ++ [p]) (by simp) (by simp at hl ⊢; omega) (by rw [List.append_assoc]; exact h1) h2)
      simp only [dispBody]
      rw [hr, if_neg (by simp at hl ⊢; omega)]
      exact go_pure'
theorem go_tail {main : Option Addr} : ∀ (l r : List (Int × Str)), r.length + l.length < 17 → Go w 0 (forIn (itemsE ps l) (main, r.map (prE ps)) dispBody) s (main, (r ++ l).map (prE ps)) s
  | [], r, _ => by rw [List.append_nil]; exact go_pure'
  | p :: l, r, hl => by
    rw [itemsE, List.map_cons, List.forIn_cons]
    have hr : r.map (prE ps) ++ [(keyE p, valE ps p)] = (r ++ [p]).map (prE ps) := by simp [prE]
    have ih := go_tail (main := main) l (r ++ [p]) (by simp at hl ⊢; omega)
    rw [List.append_assoc] at ih
    refine go_bind0 (x := ForInStep.yield (main, (r ++ [p]).map (prE ps))) (s₁ := s) ?_ ih
    simp only [dispBody]
    rw [hr, if_neg (by simp at hl ⊢; omega)]
    exact go_pure'
theorem go_flush_first {l : List (Int × Str)} (hx : 11 ≤ A.length) (hl : 15 < l.length) (hs : l.length < 1000) (hf : fitL l) :
    Go w (13 * l.length + 2) (flush (l.map (prE ps)) none) (sL A tk os) (some A.length) (sL (A ++ [dO (entL 3 tk l) l.length]) (tk + 3 * l.length) os) := by
  unfold flush
  rw [if_neg (by cases l with | nil => simp at hl | cons => simp)]
  exact go_bind0 (go_subLong hx hl hs hf) go_pure'
theorem go_flush_long {l : List (Int × Str)} (hx : 11 ≤ A.length) (hl : 15 < l.length) (hne : es ≠ []) (hf : fitL l) (hs : es.length + l.length < 1000) (hd : ∀ e ∈ es, ∀ p ∈ l, e.hash ≠ p.1) :
    Go w (6 * l.length + 5 + (13 * l.length + 2)) (flush (l.map (prE ps)) (some A.length)) (sL (A ++ dO es n :: M) tk os) (some A.length) (sL (A ++ dO (es ++ entL 3 tk l) (n + l.length) :: (M ++ [dO (entL 3 tk l) l.length])) (tk + 3 * l.length) os) := by
  unfold flush
  rw [if_neg (by cases l with | nil => simp at hl | cons => simp)]
  have h1 := go_subLong (w := w) (A := A ++ dO es n :: M) (ps := ps) (tk := tk) (os := os) (l := l) (by simp; omega) hl (by omega) hf
  have e1 : (A ++ dO es n :: M).length = A.length + 1 + M.length := by simp; omega
  rw [e1, List.append_assoc, List.cons_append] at h1
  refine go_bind (go_holding h1) ?_
  exact go_bind0 (x := ()) (go_onRaise (go_holding (go_merge hx hne hf hs hd))) go_pure'
theorem go_flush_last {l : List (Int × Str)} (hx : 11 ≤ A.length) (hl : l.length ≤ 15) (hl0 : l ≠ []) (hne : es ≠ []) (hf : fitL l) (hs : es.length + l.length < 1000) (hd : ∀ e ∈ es, ∀ p ∈ l, e.hash ≠ p.1) :
    Go w (6 * l.length + 5 + (10 * l.length + 3 * l.length + 1)) (flush (l.map (prE ps)) (some A.length)) (sL (A ++ dO es n :: M) tk os) (some A.length) (sL (A ++ dO (es ++ entL 2 tk l) (n + l.length) :: (M ++ [dO (entL 2 tk l) l.length])) (tk + 2 * l.length + l.length) os) := by
  unfold flush
  rw [if_neg (by cases l with | nil => exact absurd rfl hl0 | cons => simp)]
  have h1 := go_subShort (w := w) (A := A ++ dO es n :: M) (ps := ps) (tk := tk) (os := os) (l := l) (by simp; omega) hl hf
  have e1 : (A ++ dO es n :: M).length = A.length + 1 + M.length := by simp; omega
  rw [e1, List.append_assoc, List.cons_append] at h1
  refine go_bind (go_holding h1) ?_
  exact go_bind0 (x := ()) (go_onRaise (go_holding (go_merge hx hne hf hs hd))) go_pure'
noncomputable def partsL : Nat → List (List (Int × Str)) → List (List DictEntry)
  | _, [] => []
  | t, c :: r => entL 3 t c :: partsL (t + 51) r
theorem go_parts (hx : 11 ≤ A.length) {rest : List (Int × Str)} {v : Option Addr × Run} {b : Nat} : ∀ (cs : List (List (Int × Str))) (es : List DictEntry) (n tk : Nat) (M : List Obj), (∀ c ∈ cs, c.length = 17) → es ≠ [] → es.length + cs.flatten.length < 1000 → fitL cs.flatten → (∀ e ∈ es, ∀ p ∈ cs.flatten, e.hash ≠ p.1) →
    Go w b (forIn (itemsE ps rest) (some A.length, []) dispBody) (sL (A ++ dO (es ++ (partsL tk cs).flatten) (n + cs.flatten.length) :: (M ++ (partsL tk cs).map fun e => dO e 17)) (tk + 51 * cs.length) os) v s' →
    Go w (b + 330 * cs.length) (forIn (itemsE ps (cs.flatten ++ rest)) (some A.length, []) dispBody) (sL (A ++ dO es n :: M) tk os) v s'
  | [], es, n, tk, M, _, _, _, _, _, h => by simpa [partsL] using h
  | c :: cs, es, n, tk, M, hc, hne, hs, hf, hd, h => by
    have hc0 := hc c List.mem_cons_self
    obtain ⟨f1, f2⟩ := hf
    rw [List.flatten_cons] at f1 f2 hd hs
    rw [List.map_append, List.nodup_append] at f2
    rw [List.length_append, hc0] at hs
    have h1 := go_flush_long (w := w) (A := A) (M := M) (ps := ps) (tk := tk) (os := os) (n := n) (l := c) hx (by omega) hne ⟨fun q hq => f1 q (List.mem_append_left _ hq), f2.1⟩ (by omega) (fun e he p hp => hd e he p (List.mem_append_left _ hp))
    rw [hc0] at h1
    have h2 := go_parts hx (rest := rest) (v := v) (b := b) cs (es ++ entL 3 tk c) (n + 17) (tk + 51) (M ++ [dO (entL 3 tk c) 17]) (fun c' h' => hc c' (List.mem_cons_of_mem _ h')) (by simp [hne]) (by simp [entL_length, hc0]; simp at hs; omega) ⟨fun q hq => f1 q (List.mem_append_right _ hq), f2.2.1⟩ (by
      intro e he p hp
      rcases List.mem_append.mp he with he | he
      · exact hd e he p (List.mem_append_right _ hp)
      · obtain ⟨q, hq, z⟩ := entL_fresh he
        rw [z]
        exact f2.2.2 q.1 (List.mem_map.mpr ⟨q, hq, rfl⟩) p.1 (List.mem_map.mpr ⟨p, hp, rfl⟩)) (by
      rw [List.append_assoc, List.append_assoc]
      rw [partsL, List.flatten_cons, List.map_cons, List.flatten_cons, List.length_append, hc0, List.length_cons] at h
      rw [show n + 17 + cs.flatten.length = n + (17 + cs.flatten.length) by omega, show tk + 51 + 51 * cs.length = tk + 51 * (cs.length + 1) by omega]
      exact h)
    rw [List.flatten_cons, List.append_assoc, itemsE, List.map_append]
    rw [show b + 330 * (c :: cs).length = b + 330 * cs.length + (6 * 17 + 5 + (13 * 17 + 2)) by simp; omega]
    exact go_chunk c [] (by intro z; rw [z] at hc0; cases hc0) (by simpa using hc0) h1 h2
end
end Mine.H
end
section
open PySem PySem.Calls PyProof.Rows PySem.W
set_option maxRecDepth 100000
set_option maxHeartbeats 400000
namespace Mine.H
section
variable {w : World} {s s₁ s' : Shared} {A M : List Obj} {tk : Nat} {os : OsState} {ps : Pos}
theorem go_disp {c0 last : List (Int × Str)} {cs : List (List (Int × Str))} (hx : 11 ≤ A.length) (h0 : c0.length = 17) (hc : ∀ c ∈ cs, c.length = 17) (hl : last.length ≤ 15) (hl0 : last ≠ []) (hf : fitL (c0 ++ (cs.flatten ++ last))) (hs : (c0 ++ (cs.flatten ++ last)).length < 1000) :
    Go w (6 * last.length + 5 + (10 * last.length + 3 * last.length + 1) + (330 * cs.length + (13 * 17 + 2))) (dictDisplay (itemsE ps (c0 ++ (cs.flatten ++ last)))) (sL A tk os) (.ref A.length)
      (sL (A ++ dO (entL 3 tk c0 ++ (partsL (tk + 51) cs).flatten ++ entL 2 (tk + 51 + 51 * cs.length) last) (17 + cs.flatten.length + last.length) :: ((partsL (tk + 51) cs).map (fun e => dO e 17) ++ [dO (entL 2 (tk + 51 + 51 * cs.length) last) last.length]))
        (tk + 51 + 51 * cs.length + 2 * last.length + last.length) os) := by
  obtain ⟨f1, f2⟩ := hf
  rw [List.map_append, List.nodup_append, List.map_append, List.nodup_append] at f2
  obtain ⟨n0, ⟨n1, n2, n3⟩, n4⟩ := f2
  simp only [List.length_append, h0] at hs
  have hne : entL 3 tk c0 ≠ [] := by
    cases c0 with
    | nil => cases h0
    | cons p r => simp [entL]
  rw [disp_is]
  have F1 := go_flush_first (w := w) (A := A) (ps := ps) (tk := tk) (os := os) (l := c0) hx (by omega) (by omega) ⟨fun q hq => f1 q (List.mem_append_left _ hq), n0⟩
  rw [h0] at F1
  have T := go_tail (w := w) (ps := ps) (main := some A.length) (s := sL (A ++ dO (entL 3 tk c0 ++ (partsL (tk + 51) cs).flatten) (17 + cs.flatten.length) :: ([] ++ (partsL (tk + 51) cs).map fun e => dO e 17)) (tk + 51 + 51 * cs.length) os) last [] (by simp; omega)
  have P := go_parts (w := w) (ps := ps) (os := os) hx (rest := last) cs (entL 3 tk c0) 17 (tk + 51) [] hc hne (by rw [entL_length]; omega) ⟨fun q hq => f1 q (List.mem_append_right _ (List.mem_append_left _ hq)), n1⟩ (by
    intro e he p hp
    obtain ⟨q, hq, z⟩ := entL_fresh he
    rw [z]
    exact n4 q.1 (List.mem_map.mpr ⟨q, hq, rfl⟩) p.1 (List.mem_append_left _ (List.mem_map.mpr ⟨p, hp, rfl⟩))) T
  rw [itemsE, List.map_append]
  have C := go_chunk (ps := ps) (main := none) c0 [] (by intro z; rw [z] at h0; cases h0) (by simpa using h0) F1 P
  rw [Nat.zero_add] at C
  refine go_bind C ?_
  have L := go_flush_last (w := w) (A := A) (M := [] ++ (partsL (tk + 51) cs).map fun e => dO e 17) (ps := ps) (tk := tk + 51 + 51 * cs.length) (os := os) (n := 17 + cs.flatten.length) (l := last) (es := entL 3 tk c0 ++ (partsL (tk + 51) cs).flatten) hx hl hl0 (by simp [hne]) ⟨fun q hq => f1 q (List.mem_append_right _ (List.mem_append_right _ hq)), n2⟩ ?_ ?_
  · simp only [List.nil_append] at L ⊢
    exact go_bind0 L go_pure'
  · have : (partsL (tk + 51) cs).flatten.length = cs.flatten.length := by
      clear F1 T P C n1 n2 n3 n4 f1 hs
      generalize tk + 51 = t
      induction cs generalizing t with
      | nil => rfl
      | cons c cs ih => simp only [partsL, List.flatten_cons, List.length_append, entL_length, ih (fun c' h => hc c' (List.mem_cons_of_mem _ h))]
    rw [List.length_append, entL_length, this]
    omega
  · intro e he p hp
    have hq : ∃ q ∈ c0 ++ cs.flatten, e.hash = q.1 := by
      rcases List.mem_append.mp he with he | he
      · obtain ⟨q, hq, z⟩ := entL_fresh he
        exact ⟨q, List.mem_append_left _ hq, z⟩
      · have : ∀ (cs : List (List (Int × Str))) (t : Nat), e ∈ (partsL t cs).flatten → ∃ q ∈ cs.flatten, e.hash = q.1 := by
          intro cs
          induction cs with
          | nil => intro t h; simp [partsL] at h
          | cons c cs ih =>
            intro t h
            rw [partsL, List.flatten_cons] at h
            rcases List.mem_append.mp h with h | h
            · obtain ⟨q, hq, z⟩ := entL_fresh h
              exact ⟨q, by rw [List.flatten_cons]; exact List.mem_append_left _ hq, z⟩
            · obtain ⟨q, hq, z⟩ := ih _ h
              exact ⟨q, by rw [List.flatten_cons]; exact List.mem_append_right _ hq, z⟩
        obtain ⟨q, hq, z⟩ := this cs _ he
        exact ⟨q, List.mem_append_right _ hq, z⟩
    obtain ⟨q, hq, z⟩ := hq
    rw [z]
    rcases List.mem_append.mp hq with hq | hq
    · exact n4 q.1 (List.mem_map.mpr ⟨q, hq, rfl⟩) p.1 (List.mem_append_right _ (List.mem_map.mpr ⟨p, hp, rfl⟩))
    · exact n3 q.1 (List.mem_map.mpr ⟨q, hq, rfl⟩) p.1 (List.mem_map.mpr ⟨p, hp, rfl⟩)
end
end Mine.H
end
section
open PySem PySem.Calls PyProof.Rows PySem.W
set_option maxRecDepth 100000
set_option maxHeartbeats 400000
namespace Mine.H
noncomputable def chunk (c : Nat) : List (Int × Str) := (tab.drop (17 * c)).take 17
noncomputable def lastC : List (Int × Str) := tab.drop (38 * 17)
noncomputable def midC : List (List (Int × Str)) := (List.range 37).map fun c => chunk (c + 1)
theorem tab_is : tab = chunk 0 ++ (midC.flatten ++ lastC) := by kernel_rfl
noncomputable def upFrom : Int → List (Int × Str) → Bool
  | _, [] => true
  | k, p :: r => decide (k < p.1) && decide (p.1 < 2000000) && upFrom p.1 r
theorem up_all : ∀ {l : List (Int × Str)} {k : Int}, upFrom k l = true → ∀ p ∈ l, k < p.1 ∧ p.1 < 2000000
  | p :: l, k, h, q, hq => by
    simp only [upFrom, Bool.and_eq_true, decide_eq_true_eq] at h
    rcases List.mem_cons.mp hq with rfl | hq
    · exact h.1
    · have := up_all h.2 q hq
      exact ⟨by omega, this.2⟩
theorem up_fit : ∀ {l : List (Int × Str)} {k : Int}, upFrom k l = true → (l.map (·.1)).Nodup
  | [], _, _ => List.nodup_nil
  | p :: l, k, h => by
    simp only [upFrom, Bool.and_eq_true, decide_eq_true_eq] at h
    rw [List.map_cons, List.nodup_cons]
    refine ⟨fun hm => ?_, up_fit h.2⟩
    obtain ⟨q, hq, e⟩ := List.mem_map.mp hm
    have := (up_all h.2 q hq).1
    omega
theorem tab_up : upFrom (-1) tab = true := by kernel_rfl
theorem tab_fit : fitL (chunk 0 ++ (midC.flatten ++ lastC)) := by
  rw [← tab_is]
  exact ⟨fun p hp => by have := up_all tab_up p hp; omega, up_fit tab_up⟩
theorem tab_len : (chunk 0 ++ (midC.flatten ++ lastC)).length < 1000 := by
  rw [← tab_is]
  have : tab.length = 650 := by kernel_rfl
  omega
noncomputable def posA : Pos := match st 7 with | .Assign _ _ p => p | _ => default
noncomputable def posD : Pos := match st 7 with | .Assign _ (.Dict _ _ p) _ => p | _ => default
noncomputable def valD : Expr := match st 7 with | .Assign _ v _ => v | _ => .Constant .none 0 default
noncomputable def tarD : List Expr := match st 7 with | .Assign t _ _ => t | _ => []
noncomputable def Rest (v : Value) : Sem Flow := do assignStores benv v (← swappedStores tarD valD benv) ((assignEach tarD benv).map (·.2))
theorem exec7 : exec (st 7) benv = (standAt posA >>= fun _ => standAt posD >>= fun _ => dictDisplay (itemsE posD tab)) >>= Rest := by kernel_rfl
noncomputable def objs6 (P : Params) : List Obj := (hp_6 P).objs.toList
noncomputable def objs67 (P : Params) : List Obj := objs6 P ++ (List.range 39).map (fun c => obB (54 + c) P)
theorem len6 (P : Params) : (objs6 P).length = 54 := by kernel_rfl
theorem s6_is (P : Params) (os : OsState) : (⟨hp_6 P, #[], boot_drawn, 287, os⟩ : Shared) = sL (objs6 P) 287 os := by kernel_rfl
theorem s67_is (P : Params) (os : OsState) : sL (objs6 P ++ dO (entL 3 287 (chunk 0) ++ (partsL (287 + 51) midC).flatten ++ entL 2 (287 + 51 + 51 * midC.length) lastC) (17 + midC.flatten.length + lastC.length) ::
    ((partsL (287 + 51) midC).map (fun e => dO e 17) ++ [dO (entL 2 (287 + 51 + 51 * midC.length) lastC) lastC.length])) (287 + 51 + 51 * midC.length + 2 * lastC.length + lastC.length) os = sL (objs67 P) 2237 os := by kernel_rfl
theorem tail_go (w : World) (os : OsState) (q : Pos) : run w 8 (sL (objs67 w.params) 2237 os) ⟨(Rest (.ref 54)).wrap doneF deadEnd id id, bcode, q, [topFrame default]⟩ = some (.next, ⟨hp_7 w.params, #[], boot_drawn, 2238, os⟩, bcode, ⟨40, 0, 40, 13⟩) := by kernel_rfl
theorem lenL : lastC.length = 4 := by kernel_rfl
theorem neL : lastC ≠ [] := by
  intro z
  have := lenL
  rw [z] at this; cases this
noncomputable def n7 : Nat := 8 + ((6 * lastC.length + 5 + (10 * lastC.length + 3 * lastC.length + 1) + (330 * midC.length + (13 * 17 + 2))) + 1 + 1)
theorem piece_7 (w : World) (os : OsState) : segRun treeTable PR w 11 (some (.ref 6)) 1 n7 ⟨hp_6 w.params, #[], boot_drawn, 287, os⟩ (pieceOf (st 7) benv bcode ⟨38, 0, 39, 30⟩ [topFrame default]) = some (.next, ⟨hp_7 w.params, #[], boot_drawn, 2238, os⟩, bcode, ⟨40, 0, 40, 13⟩) := by
  have D := go_disp (w := w) (A := objs6 w.params) (tk := 287) (os := os) (ps := posD) (c0 := chunk 0) (cs := midC) (last := lastC) (by rw [len6]; decide) (by kernel_rfl) (fun c hc => ?_) (by rw [lenL]; decide) neL tab_fit tab_len
  · rw [← tab_is, len6, s67_is] at D
    have G : Go w _ (standAt posA >>= fun _ => standAt posD >>= fun _ => dictDisplay (itemsE posD tab)) (sL (objs6 w.params) 287 os) (.ref 54) (sL (objs67 w.params) 2237 os) :=
      go_bind (a := 1) (x := ()) (go_at go_pure) (go_bind (a := 1) (x := ()) (go_at go_pure) D)
    obtain ⟨q', e⟩ := G (fun v => (Rest v).wrap doneF deadEnd id id) (fun e => (Sem.raise e : Sem Flow).wrap doneF deadEnd id id) id id ⟨38, 0, 39, 30⟩
    have e := (e 8).trans (tail_go w os q')
    rw [s6_is]
    show run w n7 _ ⟨(exec (st 7) benv).wrap doneF deadEnd id id, _, _, _⟩ = _
    rw [exec7, Sem.bind_eq_wrap', Sem.wrap_wrap]
    exact e
  · obtain ⟨j, hj, rfl⟩ := List.mem_map.mp hc
    have hj := List.mem_range.mp hj
    have : tab.length = 650 := by kernel_rfl
    unfold chunk
    rw [List.length_take, List.length_drop, this]
    omega
end Mine.H
end
section
open PySem PySem.Calls PyProof.Rows PySem.W
set_option maxRecDepth 100000
set_option maxHeartbeats 0
namespace Mine.H
theorem pre_go (w : World) (os : OsState) : topGo treeTable PR w 11 (some (.ref 6)) 12 ⟨boot_heap w.params, #[], boot_drawn, boot_toks, os⟩ (topStub PR) = some (⟨hp_pre w.params, #[], boot_drawn, 187, os⟩, ⟨denote treeTable bcode, bcode, ⟨0, 0, 0, 0⟩, [topFrame default]⟩) := by kernel_rfl
theorem block_go (w : World) (os : OsState) : segRun treeTable PR w 11 (some (.ref 6)) 1 1 ⟨hp_pre w.params, #[], boot_drawn, 187, os⟩ (blockOf (behindTheImports PR) benv bcode ⟨0, 0, 0, 0⟩ [topFrame default]) = some (.next, ⟨hp_pre w.params, #[], boot_drawn, 187, os⟩, bcode, ⟨0, 0, 0, 0⟩) := by kernel_rfl
theorem fin_go (w : World) (os : OsState) : topRun treeTable PR w 11 (some (.ref 6)) 2 ⟨hp_17 w.params, #[], boot_drawn, 2411, os⟩ ⟨doneF .next, bcode, ⟨139, 0, 169, 15⟩, [topFrame default]⟩ = some ⟨hp_17 w.params, #[], boot_drawn, 2411, os⟩ := by kernel_rfl
theorem body_is : behindTheImports PR = [st 0, st 1, st 2, st 3, st 4, st 5, st 6, st 7, st 8, st 9, st 10, st 11, st 12, st 13, st 14, st 15, st 16, st 17] := by kernel_rfl
theorem run_go (w : World) (os : OsState) : topRun treeTable PR w 11 (some (.ref 6)) (12 + (1 + (30 + (10 + (33 + (35 + (10 + (999 + (30 + (n7 + (31 + (10 + (496 + (10 + (43 + (33 + (27 + (27 + (33 + (27 + 2)))))))))))))))))))) ⟨boot_heap w.params, #[], boot_drawn, boot_toks, os⟩ (topStub PR) = some ⟨hp_17 w.params, #[], boot_drawn, 2411, os⟩ := by
  refine go_top (pre_go w os) (piece_block (block_go w os) ?_)
  rw [body_is]
  exact piece_cons (piece_0 w os) (piece_cons (piece_1 w os) (piece_cons (piece_2 w os) (piece_cons (piece_3 w os) (piece_cons (piece_4 w os) (piece_cons (piece_5 w os) (piece_cons (piece_6 w os) (piece_cons (piece_7 w os) (piece_cons (piece_8 w os) (piece_cons (piece_9 w os) (piece_cons (piece_10 w os) (piece_cons (piece_11 w os) (piece_cons (piece_12 w os) (piece_cons (piece_13 w os) (piece_cons (piece_14 w os) (piece_cons (piece_15 w os) (piece_cons (piece_16 w os) (piece_cons (piece_17 w os) (piece_nil (fin_go w os)))))))))))))))))))
end Mine.H
end
section
open PySem PySem.Calls PyProof.Rows PySem.W
set_option maxRecDepth 100000
set_option maxHeartbeats 0
namespace Mine.H
theorem left_o : LeftO PR QV loose (fun _ => true) Shared.heap (fun w => hp_17 w.params) 20000 := by
  refine LeftO.of_pieces (H₀ := fun P => boot_heap P) (gs₀ := Array.mk []) (d₀ := boot_drawn) (k₀ := boot_toks) (m₀ := 11) (ann := some (.ref 6)) (boot_open (by kernel_rfl) rfl fun s => by kernel_rfl) (fun w => by kernel_rfl) (fun w os => run_go w os) (by kernel_rfl) fun w => ?_
  funext os
  refine looks_pair ?_ (looks_pair ?_ rfl)
  · show (_ && _ && true && _) = true
    rw [look_1, look_2, look_3]; rfl
  · refine looks_pair (look_4 w os) (looks_pair (look_5 w) (looks_pair ?_ (looks_pair (look_9 w os) (looks_pair (look_10 w os) (looks_pair (look_11 w os) (looks_pair (look_12 w os) (looks_pair (look_13 w os) (look_14 w os))))))))
    have h8 := look_8 w
    simp only [Bool.and_eq_true] at h8
    rw [look_6, look_7, h8.1.1, h8.1.2, h8.2]; rfl
end Mine.H
end
section
open PySem PySem.Calls PyProof.Rows PySem.W
set_option maxRecDepth 100000
set_option maxHeartbeats 400000
namespace Mine.H
noncomputable def frag (P : Params) : Frag := [(2, boot_o_2 P), (43, ob_43_5 P), (54, obB 54 P), (160, ob_160_10 P), (161, ob_161_10 P), (21, ob_21_0 P), (20, ob_20_0 P), (28, ob_28_2 P), (27, ob_27_2 P), (35, ob_35_3 P), (34, ob_34_3 P), (53, ob_53_6 P), (52, ob_52_6 P), (99, ob_99_8 P), (98, ob_98_8 P), (172, ob_172_12 P), (171, ob_171_12 P), (179, ob_179_13 P), (178, ob_178_13 P), (184, ob_184_14 P), (183, ob_183_14 P), (189, ob_189_15 P), (188, ob_188_15 P), (196, ob_196_16 P), (195, ob_195_16 P), (201, ob_201_17 P), (200, ob_200_17 P), (116, ob_116_10 P), (115, ob_115_10 P), (123, ob_123_10 P), (122, ob_122_10 P), (130, ob_130_10 P), (129, ob_129_10 P), (137, ob_137_10 P), (136, ob_136_10 P), (144, ob_144_10 P), (143, ob_143_10 P), (151, ob_151_10 P), (150, ob_150_10 P), (158, ob_158_10 P), (157, ob_157_10 P)]
noncomputable def fxW (w : World) : Fix where
  prog := PR
  w := w
  C := 161
  mg := (hp_17 w.params).nsMap mainGlobals
  mb := (hp_17 w.params).nsMap builtinsNs
  K := frag w.params
  G := progOf' PR
  h0 := hp_17 w.params
theorem frag_in (P : Params) : (frag P).In (hp_17 P) := Frag.in_of (as := [2, 43, 54, 160, 161, 21, 20, 28, 27, 35, 34, 53, 52, 99, 98, 172, 171, 179, 178, 184, 183, 189, 188, 196, 195, 201, 200, 116, 115, 123, 122, 130, 129, 137, 136, 144, 143, 151, 150, 158, 157]) (by kernel_rfl) (by kernel_rfl)
theorem base0 (w : World) : BaseH (fxW w) (hp_17 w.params) :=
  ⟨.of_isNs (by kernel_rfl), .of_isNs (by kernel_rfl), ⟨_, .of_isNs (by kernel_rfl : (hp_17 w.params).isNs cStatics = true), by kernel_rfl⟩, frag_in w.params⟩
noncomputable def fdOf (o : Obj) : FuncData := match o.data with
  | .func fd => fd
  | _ => { name := "", qualname := "", params := default, body := .stmts [], scope := default, globals := 0, closure := [], defaults := .none, kwdefaults := .none }
theorem bind_21 (P : Params) : ∀ vals : List Value, vals.length = (fnT 0).names.length → bindArgs (fdOf (ob_21_0 P)) ⟨vals, []⟩ = pure ((fnT 0).names.zip vals) := by
  have e : (fnT 0).names.length = 1 := by kernel_rfl
  rw [e]
  intro vals h
  match vals, h with
  | [a], _ => kernel_rfl
theorem fn_21 (w : World) : FnAt (fxW w) 21 (fnT 0) := by
  refine ⟨⟨ob_21_0 w.params, fdOf (ob_21_0 w.params), by kernel_rfl, by kernel_rfl, by kernel_rfl, by kernel_rfl, by kernel_rfl, by kernel_rfl, by kernel_rfl, bind_21 w.params, fun h X => ?_⟩, by kernel_rfl, by kernel_rfl⟩
  exact ⟨20, ob_20_0 w.params, _, _, by kernel_rfl, X _ _ (by kernel_rfl), rfl, rfl⟩
theorem bind_35 (P : Params) : ∀ vals : List Value, vals.length = (fnT 3).names.length → bindArgs (fdOf (ob_35_3 P)) ⟨vals, []⟩ = pure ((fnT 3).names.zip vals) := by
  have e : (fnT 3).names.length = 1 := by kernel_rfl
  rw [e]
  intro vals h
  match vals, h with
  | [a], _ => kernel_rfl
theorem fn_35 (w : World) : FnAt (fxW w) 35 (fnT 3) := by
  refine ⟨⟨ob_35_3 w.params, fdOf (ob_35_3 w.params), by kernel_rfl, by kernel_rfl, by kernel_rfl, by kernel_rfl, by kernel_rfl, by kernel_rfl, by kernel_rfl, bind_35 w.params, fun h X => ?_⟩, by kernel_rfl, by kernel_rfl⟩
  exact ⟨34, ob_34_3 w.params, _, _, by kernel_rfl, X _ _ (by kernel_rfl), rfl, rfl⟩
theorem bind_53 (P : Params) : ∀ vals : List Value, vals.length = (fnT 6).names.length → bindArgs (fdOf (ob_53_6 P)) ⟨vals, []⟩ = pure ((fnT 6).names.zip vals) := by
  have e : (fnT 6).names.length = 1 := by kernel_rfl
  rw [e]
  intro vals h
  match vals, h with
  | [a], _ => kernel_rfl
theorem fn_53 (w : World) : FnAt (fxW w) 53 (fnT 6) := by
  refine ⟨⟨ob_53_6 w.params, fdOf (ob_53_6 w.params), by kernel_rfl, by kernel_rfl, by kernel_rfl, by kernel_rfl, by kernel_rfl, by kernel_rfl, by kernel_rfl, bind_53 w.params, fun h X => ?_⟩, by kernel_rfl, by kernel_rfl⟩
  exact ⟨52, ob_52_6 w.params, _, _, by kernel_rfl, X _ _ (by kernel_rfl), rfl, rfl⟩
theorem bind_99 (P : Params) : ∀ vals : List Value, vals.length = (fnT 8).names.length → bindArgs (fdOf (ob_99_8 P)) ⟨vals, []⟩ = pure ((fnT 8).names.zip vals) := by
  have e : (fnT 8).names.length = 1 := by kernel_rfl
  rw [e]
  intro vals h
  match vals, h with
  | [a], _ => kernel_rfl
theorem fn_99 (w : World) : FnAt (fxW w) 99 (fnT 8) := by
  refine ⟨⟨ob_99_8 w.params, fdOf (ob_99_8 w.params), by kernel_rfl, by kernel_rfl, by kernel_rfl, by kernel_rfl, by kernel_rfl, by kernel_rfl, by kernel_rfl, bind_99 w.params, fun h X => ?_⟩, by kernel_rfl, by kernel_rfl⟩
  exact ⟨98, ob_98_8 w.params, _, _, by kernel_rfl, X _ _ (by kernel_rfl), rfl, rfl⟩
theorem bind_172 (P : Params) : ∀ vals : List Value, vals.length = (fnT 12).names.length → bindArgs (fdOf (ob_172_12 P)) ⟨vals, []⟩ = pure ((fnT 12).names.zip vals) := by
  have e : (fnT 12).names.length = 4 := by kernel_rfl
  rw [e]
  intro vals h
  match vals, h with
  | [a, b, c, d], _ => kernel_rfl
theorem fn_172 (w : World) : FnAt (fxW w) 172 (fnT 12) := by
  refine ⟨⟨ob_172_12 w.params, fdOf (ob_172_12 w.params), by kernel_rfl, by kernel_rfl, by kernel_rfl, by kernel_rfl, by kernel_rfl, by kernel_rfl, by kernel_rfl, bind_172 w.params, fun h X => ?_⟩, by kernel_rfl, by kernel_rfl⟩
  exact ⟨171, ob_171_12 w.params, _, _, by kernel_rfl, X _ _ (by kernel_rfl), rfl, rfl⟩
theorem bind_179 (P : Params) : ∀ vals : List Value, vals.length = (fnT 13).names.length → bindArgs (fdOf (ob_179_13 P)) ⟨vals, []⟩ = pure ((fnT 13).names.zip vals) := by
  have e : (fnT 13).names.length = 1 := by kernel_rfl
  rw [e]
  intro vals h
  match vals, h with
  | [a], _ => kernel_rfl
theorem fn_179 (w : World) : FnAt (fxW w) 179 (fnT 13) := by
  refine ⟨⟨ob_179_13 w.params, fdOf (ob_179_13 w.params), by kernel_rfl, by kernel_rfl, by kernel_rfl, by kernel_rfl, by kernel_rfl, by kernel_rfl, by kernel_rfl, bind_179 w.params, fun h X => ?_⟩, by kernel_rfl, by kernel_rfl⟩
  exact ⟨178, ob_178_13 w.params, _, _, by kernel_rfl, X _ _ (by kernel_rfl), rfl, rfl⟩
theorem bind_184 (P : Params) : ∀ vals : List Value, vals.length = (fnT 14).names.length → bindArgs (fdOf (ob_184_14 P)) ⟨vals, []⟩ = pure ((fnT 14).names.zip vals) := by
  have e : (fnT 14).names.length = 1 := by kernel_rfl
  rw [e]
  intro vals h
  match vals, h with
  | [a], _ => kernel_rfl
theorem fn_184 (w : World) : FnAt (fxW w) 184 (fnT 14) := by
  refine ⟨⟨ob_184_14 w.params, fdOf (ob_184_14 w.params), by kernel_rfl, by kernel_rfl, by kernel_rfl, by kernel_rfl, by kernel_rfl, by kernel_rfl, by kernel_rfl, bind_184 w.params, fun h X => ?_⟩, by kernel_rfl, by kernel_rfl⟩
  exact ⟨183, ob_183_14 w.params, _, _, by kernel_rfl, X _ _ (by kernel_rfl), rfl, rfl⟩
theorem bind_189 (P : Params) : ∀ vals : List Value, vals.length = (fnT 15).names.length → bindArgs (fdOf (ob_189_15 P)) ⟨vals, []⟩ = pure ((fnT 15).names.zip vals) := by
  have e : (fnT 15).names.length = 1 := by kernel_rfl
  rw [e]
  intro vals h
  match vals, h with
  | [a], _ => kernel_rfl
theorem fn_189 (w : World) : FnAt (fxW w) 189 (fnT 15) := by
  refine ⟨⟨ob_189_15 w.params, fdOf (ob_189_15 w.params), by kernel_rfl, by kernel_rfl, by kernel_rfl, by kernel_rfl, by kernel_rfl, by kernel_rfl, by kernel_rfl, bind_189 w.params, fun h X => ?_⟩, by kernel_rfl, by kernel_rfl⟩
  exact ⟨188, ob_188_15 w.params, _, _, by kernel_rfl, X _ _ (by kernel_rfl), rfl, rfl⟩
theorem bind_196 (P : Params) : ∀ vals : List Value, vals.length = (fnT 16).names.length → bindArgs (fdOf (ob_196_16 P)) ⟨vals, []⟩ = pure ((fnT 16).names.zip vals) := by
  have e : (fnT 16).names.length = 2 := by kernel_rfl
  rw [e]
  intro vals h
  match vals, h with
  | [a, b], _ => kernel_rfl
theorem fn_196 (w : World) : FnAt (fxW w) 196 (fnT 16) := by
  refine ⟨⟨ob_196_16 w.params, fdOf (ob_196_16 w.params), by kernel_rfl, by kernel_rfl, by kernel_rfl, by kernel_rfl, by kernel_rfl, by kernel_rfl, by kernel_rfl, bind_196 w.params, fun h X => ?_⟩, by kernel_rfl, by kernel_rfl⟩
  exact ⟨195, ob_195_16 w.params, _, _, by kernel_rfl, X _ _ (by kernel_rfl), rfl, rfl⟩
theorem bind_201 (P : Params) : ∀ vals : List Value, vals.length = (fnT 17).names.length → bindArgs (fdOf (ob_201_17 P)) ⟨vals, []⟩ = pure ((fnT 17).names.zip vals) := by
  have e : (fnT 17).names.length = 1 := by kernel_rfl
  rw [e]
  intro vals h
  match vals, h with
  | [a], _ => kernel_rfl
theorem fn_201 (w : World) : FnAt (fxW w) 201 (fnT 17) := by
  refine ⟨⟨ob_201_17 w.params, fdOf (ob_201_17 w.params), by kernel_rfl, by kernel_rfl, by kernel_rfl, by kernel_rfl, by kernel_rfl, by kernel_rfl, by kernel_rfl, bind_201 w.params, fun h X => ?_⟩, by kernel_rfl, by kernel_rfl⟩
  exact ⟨200, ob_200_17 w.params, _, _, by kernel_rfl, X _ _ (by kernel_rfl), rfl, rfl⟩
theorem bind_116 (P : Params) : ∀ vals : List Value, vals.length = (fnC 1).names.length → bindArgs (fdOf (ob_116_10 P)) ⟨vals, []⟩ = pure ((fnC 1).names.zip vals) := by
  have e : (fnC 1).names.length = 2 := by kernel_rfl
  rw [e]
  intro vals h
  match vals, h with
  | [a, b], _ => kernel_rfl
theorem fn_116 (w : World) : FnAt (fxW w) 116 (fnC 1) := by
  refine ⟨⟨ob_116_10 w.params, fdOf (ob_116_10 w.params), by kernel_rfl, by kernel_rfl, by kernel_rfl, by kernel_rfl, by kernel_rfl, by kernel_rfl, by kernel_rfl, bind_116 w.params, fun h X => ?_⟩, by kernel_rfl, by kernel_rfl⟩
  exact ⟨115, ob_115_10 w.params, _, _, by kernel_rfl, X _ _ (by kernel_rfl), rfl, rfl⟩
theorem bind_123 (P : Params) : ∀ vals : List Value, vals.length = (fnC 2).names.length → bindArgs (fdOf (ob_123_10 P)) ⟨vals, []⟩ = pure ((fnC 2).names.zip vals) := by
  have e : (fnC 2).names.length = 1 := by kernel_rfl
  rw [e]
  intro vals h
  match vals, h with
  | [a], _ => kernel_rfl
theorem fn_123 (w : World) : FnAt (fxW w) 123 (fnC 2) := by
  refine ⟨⟨ob_123_10 w.params, fdOf (ob_123_10 w.params), by kernel_rfl, by kernel_rfl, by kernel_rfl, by kernel_rfl, by kernel_rfl, by kernel_rfl, by kernel_rfl, bind_123 w.params, fun h X => ?_⟩, by kernel_rfl, by kernel_rfl⟩
  exact ⟨122, ob_122_10 w.params, _, _, by kernel_rfl, X _ _ (by kernel_rfl), rfl, rfl⟩
theorem bind_130 (P : Params) : ∀ vals : List Value, vals.length = (fnC 3).names.length → bindArgs (fdOf (ob_130_10 P)) ⟨vals, []⟩ = pure ((fnC 3).names.zip vals) := by
  have e : (fnC 3).names.length = 2 := by kernel_rfl
  rw [e]
  intro vals h
  match vals, h with
  | [a, b], _ => kernel_rfl
theorem fn_130 (w : World) : FnAt (fxW w) 130 (fnC 3) := by
  refine ⟨⟨ob_130_10 w.params, fdOf (ob_130_10 w.params), by kernel_rfl, by kernel_rfl, by kernel_rfl, by kernel_rfl, by kernel_rfl, by kernel_rfl, by kernel_rfl, bind_130 w.params, fun h X => ?_⟩, by kernel_rfl, by kernel_rfl⟩
  exact ⟨129, ob_129_10 w.params, _, _, by kernel_rfl, X _ _ (by kernel_rfl), rfl, rfl⟩
theorem bind_137 (P : Params) : ∀ vals : List Value, vals.length = (fnC 4).names.length → bindArgs (fdOf (ob_137_10 P)) ⟨vals, []⟩ = pure ((fnC 4).names.zip vals) := by
  have e : (fnC 4).names.length = 2 := by kernel_rfl
  rw [e]
  intro vals h
  match vals, h with
  | [a, b], _ => kernel_rfl
theorem fn_137 (w : World) : FnAt (fxW w) 137 (fnC 4) := by
  refine ⟨⟨ob_137_10 w.params, fdOf (ob_137_10 w.params), by kernel_rfl, by kernel_rfl, by kernel_rfl, by kernel_rfl, by kernel_rfl, by kernel_rfl, by kernel_rfl, bind_137 w.params, fun h X => ?_⟩, by kernel_rfl, by kernel_rfl⟩
  exact ⟨136, ob_136_10 w.params, _, _, by kernel_rfl, X _ _ (by kernel_rfl), rfl, rfl⟩
theorem bind_144 (P : Params) : ∀ vals : List Value, vals.length = (fnC 5).names.length → bindArgs (fdOf (ob_144_10 P)) ⟨vals, []⟩ = pure ((fnC 5).names.zip vals) := by
  have e : (fnC 5).names.length = 2 := by kernel_rfl
  rw [e]
  intro vals h
  match vals, h with
  | [a, b], _ => kernel_rfl
theorem fn_144 (w : World) : FnAt (fxW w) 144 (fnC 5) := by
  refine ⟨⟨ob_144_10 w.params, fdOf (ob_144_10 w.params), by kernel_rfl, by kernel_rfl, by kernel_rfl, by kernel_rfl, by kernel_rfl, by kernel_rfl, by kernel_rfl, bind_144 w.params, fun h X => ?_⟩, by kernel_rfl, by kernel_rfl⟩
  exact ⟨143, ob_143_10 w.params, _, _, by kernel_rfl, X _ _ (by kernel_rfl), rfl, rfl⟩
theorem bind_151 (P : Params) : ∀ vals : List Value, vals.length = (fnC 6).names.length → bindArgs (fdOf (ob_151_10 P)) ⟨vals, []⟩ = pure ((fnC 6).names.zip vals) := by
  have e : (fnC 6).names.length = 2 := by kernel_rfl
  rw [e]
  intro vals h
  match vals, h with
  | [a, b], _ => kernel_rfl
theorem fn_151 (w : World) : FnAt (fxW w) 151 (fnC 6) := by
  refine ⟨⟨ob_151_10 w.params, fdOf (ob_151_10 w.params), by kernel_rfl, by kernel_rfl, by kernel_rfl, by kernel_rfl, by kernel_rfl, by kernel_rfl, by kernel_rfl, bind_151 w.params, fun h X => ?_⟩, by kernel_rfl, by kernel_rfl⟩
  exact ⟨150, ob_150_10 w.params, _, _, by kernel_rfl, X _ _ (by kernel_rfl), rfl, rfl⟩
theorem bind_158 (P : Params) : ∀ vals : List Value, vals.length = (fnC 7).names.length → bindArgs (fdOf (ob_158_10 P)) ⟨vals, []⟩ = pure ((fnC 7).names.zip vals) := by
  have e : (fnC 7).names.length = 2 := by kernel_rfl
  rw [e]
  intro vals h
  match vals, h with
  | [a, b], _ => kernel_rfl
theorem fn_158 (w : World) : FnAt (fxW w) 158 (fnC 7) := by
  refine ⟨⟨ob_158_10 w.params, fdOf (ob_158_10 w.params), by kernel_rfl, by kernel_rfl, by kernel_rfl, by kernel_rfl, by kernel_rfl, by kernel_rfl, by kernel_rfl, bind_158 w.params, fun h X => ?_⟩, by kernel_rfl, by kernel_rfl⟩
  exact ⟨157, ob_157_10 w.params, _, _, by kernel_rfl, X _ _ (by kernel_rfl), rfl, rfl⟩
end Mine.H
end
section
open PySem PySem.Calls PyProof.Rows PySem.W
set_option maxRecDepth 100000
set_option maxHeartbeats 400000
namespace Mine.H
theorem fns_is : (progOf' PR).fns = [(nm "_wall", fnT 0), (nm "_strip_quoted_realnames", fnT 3), (nm "in_table_b1", fnT 6), (nm "map_table_b3", fnT 8), (nm "_law_cell", fnT 12), (nm "_law_units", fnT 13), (nm "_law_row", fnT 14), (nm "_law_lead", fnT 15), (nm "_law_back", fnT 16), (nm "law", fnT 17)] := by kernel_rfl
theorem meths_is : (progOf' PR).meths = [(nm "__init__", fnC 1), (nm "longest_run_of_spaces", fnC 2), (nm "indent_level", fnC 3), (nm "equal", fnC 4), (nm "not_equal_witness", fnC 5), (nm "less", fnC 6), (nm "not_less_witness", fnC 7)] := by kernel_rfl
theorem st_bi (w : World) : ∀ f v, biNames.lookup f = some v → (fxW w).mg f = none ∧ (fxW w).mb f = some v := by
  intro f v h
  have hm := mem_of_lookup h
  simp only [biNames, List.mem_cons, List.not_mem_nil, or_false, Prod.mk.injEq] at hm
  rcases hm with ⟨rfl, rfl⟩ | ⟨rfl, rfl⟩ | ⟨rfl, rfl⟩ | ⟨rfl, rfl⟩ | ⟨rfl, rfl⟩ | ⟨rfl, rfl⟩ | ⟨rfl, rfl⟩ | ⟨rfl, rfl⟩ | ⟨rfl, rfl⟩ | ⟨rfl, rfl⟩ | ⟨rfl, rfl⟩ <;> exact ⟨by kernel_rfl, by kernel_rfl⟩
theorem st_fns (w : World) : ∀ f g, (fxW w).G.fns.lookup f = some g → ∃ a, (fxW w).mg f = some (.ref a) ∧ FnAt (fxW w) a g := by
  intro f g h
  have hm := mem_of_lookup (show (progOf' PR).fns.lookup f = some g from h)
  rw [fns_is] at hm
  simp only [List.mem_cons, List.not_mem_nil, or_false, Prod.mk.injEq] at hm
  rcases hm with ⟨rfl, rfl⟩ | ⟨rfl, rfl⟩ | ⟨rfl, rfl⟩ | ⟨rfl, rfl⟩ | ⟨rfl, rfl⟩ | ⟨rfl, rfl⟩ | ⟨rfl, rfl⟩ | ⟨rfl, rfl⟩ | ⟨rfl, rfl⟩ | ⟨rfl, rfl⟩
  · exact ⟨21, by kernel_rfl, fn_21 w⟩
  · exact ⟨35, by kernel_rfl, fn_35 w⟩
  · exact ⟨53, by kernel_rfl, fn_53 w⟩
  · exact ⟨99, by kernel_rfl, fn_99 w⟩
  · exact ⟨172, by kernel_rfl, fn_172 w⟩
  · exact ⟨179, by kernel_rfl, fn_179 w⟩
  · exact ⟨184, by kernel_rfl, fn_184 w⟩
  · exact ⟨189, by kernel_rfl, fn_189 w⟩
  · exact ⟨196, by kernel_rfl, fn_196 w⟩
  · exact ⟨201, by kernel_rfl, fn_201 w⟩
theorem st_meths (w : World) : ∀ m g, (fxW w).G.meths.lookup m = some g → fldNames.contains m = false ∧ ∃ a, findIn (fxW w).K (.ref (fxW w).C) m = some (some (.ref a)) ∧ isFn (fxW w).K (.ref a) = true ∧ FnAt (fxW w) a g := by
  intro f g h
  have hm := mem_of_lookup (show (progOf' PR).meths.lookup f = some g from h)
  rw [meths_is] at hm
  simp only [List.mem_cons, List.not_mem_nil, or_false, Prod.mk.injEq] at hm
  rcases hm with ⟨rfl, rfl⟩ | ⟨rfl, rfl⟩ | ⟨rfl, rfl⟩ | ⟨rfl, rfl⟩ | ⟨rfl, rfl⟩ | ⟨rfl, rfl⟩ | ⟨rfl, rfl⟩
  · exact ⟨by kernel_rfl, 116, by kernel_rfl, by kernel_rfl, fn_116 w⟩
  · exact ⟨by kernel_rfl, 123, by kernel_rfl, by kernel_rfl, fn_123 w⟩
  · exact ⟨by kernel_rfl, 130, by kernel_rfl, by kernel_rfl, fn_130 w⟩
  · exact ⟨by kernel_rfl, 137, by kernel_rfl, by kernel_rfl, fn_137 w⟩
  · exact ⟨by kernel_rfl, 144, by kernel_rfl, by kernel_rfl, fn_144 w⟩
  · exact ⟨by kernel_rfl, 151, by kernel_rfl, by kernel_rfl, fn_151 w⟩
  · exact ⟨by kernel_rfl, 158, by kernel_rfl, by kernel_rfl, fn_158 w⟩
theorem st_fld (w : World) : ∀ a, fldNames.contains a = true → findIn (fxW w).K (.ref (fxW w).C) a = some none ∧ takerIn (fxW w).K (fxW w).C a = some none := by
  intro a h
  have hm := List.contains_iff_mem.mp h
  simp only [fldNames, List.mem_cons, List.not_mem_nil, or_false] at hm
  rcases hm with rfl | rfl | rfl | rfl | rfl <;> exact ⟨by kernel_rfl, by kernel_rfl⟩
noncomputable def numOf : Value → Int
  | .int i _ => i
  | _ => 0
noncomputable def setEs (o : Obj) : Array (Int × Value) := match o.data with
  | .set es _ _ => es
  | _ => #[]
noncomputable def elemOk (e : Int × Value) : Bool := Value.isInt (numOf e.2) e.2 && e.1 == hashInt (numOf e.2) && e.2.scannable
theorem set_all (P : Params) : (setEs (ob_43_5 P)).toList.all elemOk = true := by kernel_rfl
theorem set_nums (P : Params) : (setEs (ob_43_5 P)).toList.map (fun e => numOf e.2) = [65024, 65025, 65026, 65027, 65028, 65029, 6150, 65030, 65031, 65032, 65033, 6155, 6156, 6157, 8203, 8204, 8205, 65034, 65035, 65036, 65037, 65038, 65039, 173, 847, 8288, 65279] := by kernel_rfl
noncomputable def b1P : List Nat := [65024, 65025, 65026, 65027, 65028, 65029, 6150, 65030, 65031, 65032, 65033, 6155, 6156, 6157, 8203, 8204, 8205, 65034, 65035, 65036, 65037, 65038, 65039, 173, 847, 8288, 65279]
theorem b1P_all : (b1P.all (b1L.contains ·) && b1L.all (b1P.contains ·)) = true := by decide +kernel
theorem b1P_mem (j : Nat) : j ∈ b1P ↔ j ∈ b1L := by
  have h := Bool.and_eq_true_iff.mp b1P_all
  exact ⟨fun q => List.contains_iff_mem.mp (List.all_eq_true.mp h.1 j q), fun q => List.contains_iff_mem.mp (List.all_eq_true.mp h.2 j q)⟩
theorem st_b1 (w : World) : ∃ a, (fxW w).mg (nm "b1_set") = some (.ref a) ∧ ∃ n, ∀ h, BaseH (fxW w) h → h.SetOf (intKind (fxW w).prog (fxW w).w) a (fun i => (fxW w).G.b1.any fun k => decide ((k : Int) = i)) n := by
  refine ⟨43, by kernel_rfl, 27, fun h B => ⟨ob_43_5 w.params, setEs (ob_43_5 w.params), 29, _, B.X 43 _ (by kernel_rfl), ⟨rfl, rfl, rfl⟩, rfl, ?_, ?_, ?_, by kernel_rfl, rfl⟩⟩
  · intro e he
    have := List.all_eq_true.mp (set_all w.params) e he
    simp only [elemOk, Bool.and_eq_true, beq_iff_eq] at this
    exact ⟨⟨_, this.1.1, this.1.2⟩, this.2⟩
  · intro k
    have hb : (fxW w).G.b1 = b1L := by kernel_rfl
    rw [hb]
    have hn := set_nums w.params
    have hl : (setEs (ob_43_5 w.params)).toList.map (fun e => numOf e.2) = b1P.map fun (j : Nat) => (j : Int) := hn
    have key : (∃ e ∈ (setEs (ob_43_5 w.params)).toList, Value.isInt k e.2 = true) ↔ k ∈ (setEs (ob_43_5 w.params)).toList.map (fun e => numOf e.2) := by
      rw [List.mem_map]
      constructor
      · rintro ⟨e, he, hk⟩
        refine ⟨e, he, ?_⟩
        obtain ⟨t, ht⟩ := Value.isInt_shape hk
        rw [ht]; rfl
      · rintro ⟨e, he, rfl⟩
        have := List.all_eq_true.mp (set_all w.params) e he
        simp only [elemOk, Bool.and_eq_true, beq_iff_eq] at this
        exact ⟨e, he, this.1.1⟩
    show _ ↔ ∃ e ∈ (setEs (ob_43_5 w.params)).toList, Value.isInt k e.2 = true
    rw [key, hl, List.mem_map, List.any_eq_true]
    exact ⟨fun ⟨j, h1, h2⟩ => ⟨j, (b1P_mem j).2 h1, of_decide_eq_true h2⟩, fun ⟨j, h1, h2⟩ => ⟨j, (b1P_mem j).1 h1, decide_eq_true h2⟩⟩
  · show 27 < scanBound
    decide
end Mine.H
end
section
open PySem PySem.Calls PyProof.Rows PySem.W
set_option maxRecDepth 100000
set_option maxHeartbeats 400000
namespace Mine.H
noncomputable def dictEs (o : Obj) : Array DictEntry := match o.data with
  | .dict es _ => es
  | _ => #[]
noncomputable def entOk (e : DictEntry) : Bool := match e.key, e.val with
  | .int i _, .str _ _ => e.hash == hashInt i
  | _, _ => false
noncomputable def pairOf (e : DictEntry) : Int × Str := match e.key, e.val with
  | .int i _, .str s _ => (i, s)
  | _, _ => (0, "")
theorem dict_all (P : Params) : (dictEs (obB 54 P)).toList.all entOk = true := by kernel_rfl
theorem dict_pairs (P : Params) : (dictEs (obB 54 P)).toList.map pairOf = tab := by kernel_rfl
theorem b3_is : (progOf' PR).b3 = tab.map fun p => (p.1, p.2.cps.toList) := by kernel_rfl
theorem find_look (k : Int) : ∀ (es : List DictEntry), es.all entOk = true → match (es.map pairOf).lookup k with
    | some s => ∃ u, (es.find? fun e => Value.isInt k e.key).map (·.val) = some (.str s u)
    | none => (es.find? fun e => Value.isInt k e.key).map (·.val) = none
  | [], _ => rfl
  | e :: es, h => by
    simp only [List.all_cons, Bool.and_eq_true] at h
    obtain ⟨h1, h2⟩ := h
    obtain ⟨hash, key, val⟩ := e
    unfold entOk at h1
    split at h1
    · rename_i i t s u e1 e2
      dsimp only at e1 e2
      subst e1 e2
      rw [List.map_cons, List.lookup_cons, List.find?_cons]
      by_cases hk : k = i
      · subst hk
        simp [pairOf, Value.isInt]
      · have a : (k == (pairOf ⟨hash, .int i t, .str s u⟩).1) = false := beq_eq_false_iff_ne.mpr hk
        have b : Value.isInt k (.int i t) = false := by
          cases q : Value.isInt k (.int i t) with
          | false => rfl
          | true =>
            obtain ⟨t', e⟩ := Value.isInt_shape q
            cases e; exact absurd rfl hk
        rw [a]
        dsimp only
        rw [b]
        exact find_look k es h2
    · cases h1
theorem lookup_map {k : Int} : ∀ (l : List (Int × Str)), (l.map fun p => (p.1, p.2.cps.toList)).lookup k = (l.lookup k).map fun s => s.cps.toList
  | [] => rfl
  | p :: l => by
    rw [List.map_cons, List.lookup_cons, List.lookup_cons]
    cases k == p.1
    · exact lookup_map l
    · rfl
theorem st_b3 (w : World) : ∃ a, (fxW w).mg (nm "b3_exceptions") = some (.ref a) ∧ (a == sysModules) = false ∧ ∃ f, (∀ h, BaseH (fxW w) h → h.MapOf (intKind (fxW w).prog (fxW w).w) a f) ∧ ∀ i, match (fxW w).G.b3.lookup i with | some t => ∃ u, f i = some (.str ⟨t.toArray⟩ u) | none => f i = none := by
  refine ⟨54, by kernel_rfl, rfl, fun k => findBy Value.isInt (dictEs (obB 54 w.params)) k, fun h B => ⟨obB 54 w.params, dictEs (obB 54 w.params), 650, B.X 54 _ (by kernel_rfl), ⟨by kernel_rfl, by kernel_rfl, by kernel_rfl⟩, by kernel_rfl, ?_, fun k => rfl⟩, fun i => ?_⟩
  · intro e he
    have := List.all_eq_true.mp (dict_all w.params) e (by simpa using he)
    obtain ⟨hash, key, val⟩ := e
    unfold entOk at this
    split at this
    · rename_i i t s u e1 e2
      dsimp only at e1 e2
      subst e1
      exact ⟨i, by simp [intKind, Value.isInt], eq_of_beq this⟩
    · cases this
  · have hb : (fxW w).G.b3 = tab.map fun p => (p.1, p.2.cps.toList) := b3_is
    rw [hb, lookup_map]
    have := find_look i (dictEs (obB 54 w.params)).toList (dict_all w.params)
    rw [dict_pairs] at this
    have hf : findBy Value.isInt (dictEs (obB 54 w.params)) i = ((dictEs (obB 54 w.params)).toList.find? fun e => Value.isInt i e.key).map (·.val) := by
      unfold findBy
      rw [Array.find?_toList]
    simp only [hf]
    cases q : tab.lookup i with
    | none => rw [q] at this; exact this
    | some s => rw [q] at this; exact this
theorem stat (w : World) : Stat (fxW w) where
  bi := st_bi w
  fns := st_fns w
  meths := st_meths w
  cls := by kernel_rfl
  ckeep := by kernel_rfl
  pg := fun a => by kernel_rfl
  hd := by kernel_rfl
  fld := fun a h => (st_fld w a h).1
  setA := by kernel_rfl
  over := by kernel_rfl
  makes := by kernel_rfl
  taker := fun a h => (st_fld w a h).2
  clsS := ⟨.type "type", by kernel_rfl, ⟨2261, by kernel_rfl⟩, ⟨2262, by kernel_rfl⟩⟩
  b1 := st_b1 w
  b3 := st_b3 w
noncomputable def gPos : List Pos := [⟨9,11,9,17⟩, ⟨10,19,10,22⟩, ⟨10,24,10,28⟩, ⟨10,31,10,33⟩, ⟨10,24,10,33⟩, ⟨10,18,10,34⟩, ⟨10,12,10,34⟩, ⟨10,12,10,34⟩, ⟨11,12,11,18⟩, ⟨11,21,11,26⟩, ⟨11,12,11,26⟩, ⟨12,13,12,15⟩, ⟨12,19,12,23⟩, ⟨12,13,12,23⟩, ⟨13,12,13,18⟩, ⟨13,21,13,25⟩, ⟨13,12,13,25⟩, ⟨15,19,15,22⟩, ⟨15,24,15,26⟩, ⟨15,18,15,27⟩, ⟨15,12,15,27⟩, ⟨15,12,15,27⟩, ⟨12,8,15,27⟩, ⟨9,8,15,27⟩, ⟨8,8,8,11⟩, ⟨8,13,8,15⟩, ⟨8,8,8,15⟩, ⟨16,7,16,13⟩, ⟨17,15,17,18⟩, ⟨17,20,17,24⟩, ⟨17,14,17,25⟩, ⟨17,8,17,25⟩, ⟨17,8,17,25⟩, ⟨16,4,17,25⟩, ⟨6,4,6,7⟩, ⟨6,10,6,11⟩, ⟨6,4,6,11⟩, ⟨7,4,7,10⟩, ⟨7,13,7,18⟩, ⟨7,4,7,18⟩, ⟨8,19,8,28⟩, ⟨8,29,8,33⟩, ⟨8,19,8,34⟩, ⟨8,4,15,27⟩]
theorem gfn (w : World) : GFn (fxW w) 28 := by
  refine ⟨⟨ob_28_2 w.params, fdOf (ob_28_2 w.params), fun n => gPos.getD n default, by kernel_rfl, by kernel_rfl, by kernel_rfl, by kernel_rfl, by kernel_rfl, by kernel_rfl, by kernel_rfl, by kernel_rfl, by kernel_rfl, by kernel_rfl, fun v => by kernel_rfl, fun h X => ?_⟩, by kernel_rfl⟩
  exact ⟨27, ob_27_2 w.params, _, _, by kernel_rfl, X _ _ (by kernel_rfl), rfl, rfl⟩
theorem gen_okW (w : World) : GenOk (fxW w) := gen_ok (stat w) (a := 28) (by kernel_rfl) (gfn w)
theorem sound (w : World) (n : Nat) : SndX (fxW w) (lvl (progOf' PR) n) (2 * n) := lvl_SndX (stat w) (gen_okW w) n
end Mine.H
end
section
open PySem PySem.Calls PyProof.Rows PySem.W
set_option maxRecDepth 100000
set_option maxHeartbeats 1000000
namespace Mine.H
noncomputable abbrev RW : OpenLaw := PySem.Challenge.rw_st0046_02
theorem well_ints {P : Params} {h : Heap} : ∀ {xs : List WData} {vs : List Value}, WShape.hasItems [] xs .int = true → WellAll P h vs xs → ∃ l : List Int, xs.length = l.length ∧ ∀ (fx : Fix) (W : Addr → Prop), RepL fx W h (l.map V.int) vs
  | [], vs, _, hw => by
    cases hw
    exact ⟨[], rfl, fun fx W => by simp [RepL]⟩
  | x :: xs, vs, hs, hw => by
    cases hw with
    | cons hv hvs =>
      simp only [WShape.hasItems, Bool.and_eq_true] at hs
      obtain ⟨l, e, hl⟩ := well_ints hs.2 hvs
      cases x with
      | int i =>
        cases hv
        refine ⟨i :: l, by simp [e], fun fx W => ?_⟩
        exact .mk _ _ (.mk _) (hl fx W)
      | _ => exact absurd hs.1 (by simp [WShape.has, WShape.arms])
noncomputable def Plain : Prop := ∀ l : List Int, l.length ≤ 63 → ∃ n, n ≤ 200 ∧ (lvl (progOf' PR) n).F (nm "law") [.lst (l.map V.int)] = some (.bool true)
theorem shape_list {args : List WData} (h : WShape.hasAll [] args [.list .int] = true) : ∃ xs, args = [.list xs] ∧ WShape.hasItems [] xs .int = true := by
  cases args with
  | nil => simp [WShape.hasAll] at h
  | cons x r =>
    simp only [WShape.hasAll, Bool.and_eq_true] at h
    obtain ⟨h1, h2⟩ := h
    cases r with
    | cons y r => simp [WShape.hasAll] at h2
    | nil =>
      cases x with
      | list xs => exact ⟨xs, rfl, by simpa [WShape.has, WShape.arms] using h1⟩
      | _ => exact absurd h1 (by simp [WShape.has, WShape.arms])
theorem pre_len {xs : List WData} (h : RW.row.pre.holds [] { args := [.list xs] } = true) : xs.length ≤ 63 := by
  have hp : RW.row.pre = .and (.not (.lt (.lit (.int 63)) (.len (.arg 0)))) (.lit (.bool true)) := by kernel_rfl
  rw [hp] at h
  by_cases q : xs.length ≤ 63
  · exact q
  · exfalso
    have q' : (63 : Int) < xs.length := by omega
    simp [WTm.holds, WTm.value, less?, Num.less?, q'] at h
theorem walk (hP : Plain) {d : DefRec} {kwd : List (Str × Expr)} (hd : d.name = "law") : WalkO QV loose (fun _ _ => True) (fun w h => ∀ b o, (hp_17 w.params).get? b = some o → h.get? b = some o) RW.row.toRowW d kwd (fun f vs => call f vs) := by
  intro w s₀ s₁ mg mb G Y a o pm cd doc dV kV ho hod hcr hdf hmg hgens args vals as hpre hlay hreads hwell hsys
  have B := (base0 w).keeps Y
  have hmm : mg = (fxW w).mg := ns_unique G.T.g B.g
  have ha : a = 201 := by
    rw [hmm, hd] at hmg
    have e : (fxW w).mg "law" = some (.ref 201) := by kernel_rfl
    rw [e] at hmg
    cases hmg; rfl
  subst ha
  simp only [RowW.claim, Bool.and_eq_true] at hpre
  obtain ⟨xs, rfl, hx⟩ := shape_list hpre.1
  have hlen := pre_len hpre.2
  obtain ⟨v, vs', rfl, hv, hvs⟩ := wellAll_cons_inv hwell
  cases hvs
  cases hv with
  | @list a' vs0 _ hobj hits =>
    obtain ⟨l, hl, hr⟩ := well_ints hx hits
    obtain ⟨n, hn, hF⟩ := hP l (by omega)
    have S := sound w n
    have R : Room callerA (2 * n) := ⟨by show 1 + claimMargin + 2 * n ≤ 900; have : claimMargin = 300 := by decide
                                         omega, by show 4 + 20 * (2 * n) ≤ 9000; omega, rfl⟩
    have g : Gd (fxW w) (fun _ => False) s₁.heap := ⟨base0 w, fun b o e => ⟨id, Y b o e⟩, fun b q => q.elim⟩
    have hL : RepL (fxW w) (fun _ => False) s₁.heap [.lst (l.map V.int)] [.ref a'] := by
      exact .one (.mk a' vs0.toArray 0 id hobj (hr (fxW w) fun _ => False))
    refine wpAny_mono (S.F R g hL hF (fv := .ref 201) (by kernel_rfl) _) (fun c s' h => ?_) fun _ _ h => h
    obtain ⟨x, hc⟩ := h
    cases (hc : c = _)
    refine ⟨.inl ⟨.bool true, .bool true, [], rfl, fun cls => rfl, .bool true, ?_, fun _ => ⟨List.nodup_nil, fun a ha => (by cases ha)⟩⟩, .of_keep x.keep, x.os, x.bare (by rw [hgens]; exact AllBare.empty)⟩
    have hq : RW.row.post = .eq .res (.lit (.bool true)) := by kernel_rfl
    have hr' : RW.row.returns = .bool := by kernel_rfl
    simp only [RowW.claim, hq, hr']
    simp [WShape.has, WShape.arms, WTm.holds, WTm.value]
    kernel_rfl
end Mine.H
end
section
open PySem PySem.Calls PyProof.Rows PySem.W
set_option maxRecDepth 100000
set_option maxHeartbeats 4000000
namespace Mine.H
noncomputable def dRec : Option (DefRec × List (Str × Expr)) := defOf QV "law"
noncomputable def dOf (f : DefRec × List (Str × Expr) → α) (z : α) : α := match dRec with
  | some p => f p
  | none => z
theorem d_is : ∃ p, defOf QV RW.row.name = some p ∧ p.1.name = "law" ∧ RW.row.prog.theDef RW.row.name = some (p.1.params, p.1.body, p.1.scope) ∧ kwWritten? p.1.params.kwonlyargs p.1.params.kw_defaults = some p.2 := by
  refine ⟨?p, ?h1, ?h2, ?h3, ?h4⟩
  case p => exact (dRec.get (by kernel_rfl))
  case h1 => kernel_rfl
  case h2 => kernel_rfl
  case h3 => kernel_rfl
  case h4 => kernel_rfl
theorem said_1 : namesResolve RW.row.prog = true := by kernel_rfl
theorem said_2 : noRoadLSs { strict := !(importedModules RW.row.prog.main.body).all cThrough.contains, foot := none, bare := (["vars", "dir", "locals"] : List Str).filter (readsOut RW.row.prog RW.row.prog.main.body) } RW.row.prog.main.body = true := by kernel_rfl
theorem said_3 : namesMeet RW.row.prog RW.row.prog.main.body (fun _ n => attrL n) = true := by kernel_rfl
theorem said_4 : looksOpen RW.row.prog = true := by
  unfold looksOpen
  repeat' (with_reducible refine look_both ?_ ?_)
  all_goals (first | (with_reducible exact said_1) | (with_reducible exact said_2) | (with_reducible exact said_3) | kernel_rfl)
theorem said_5 : RW.row.wellSaid = true := by
  unfold OpenRow.wellSaid OpenRow.partSaid
  rw [said_4]
  kernel_rfl
theorem said_law : RW.wellSaid = true := by
  unfold OpenLaw.wellSaid
  rw [said_5]
  kernel_rfl
theorem law_of (hP : Plain) : RW.Holds := by
  refine holds_law said_law fun said => ?_
  obtain ⟨⟨d, kwd⟩, h1, h2, h3, h4⟩ := d_is
  exact PySem.W.holds_open (r := RW.row) (q := QV) (loose := loose) (Xt := fun _ => true) (XP := fun _ _ => True) (Yf := Shared.heap) (Ya := fun w => hp_17 w.params) (YP := fun w h => ∀ b o, (hp_17 w.params).get? b = some o → h.get? b = some o) (N := 20000)
    left_o (fun w s e b o h => by rw [e]; exact h) (fun w h h' y k b o e => k b o (y b o e)) (fun _ _ => trivial) (fun _ _ _ _ _ => trivial)
    (d := d) (kwd := kwd) h1 h3 h4 (fun s _ => recFacts_nil rfl) rfl said (by kernel_rfl) ⟨rfl, rfl, rfl, rfl, by kernel_rfl, by kernel_rfl⟩ ⟨[.list []], by kernel_rfl, by kernel_rfl⟩ (walk hP h2)
end Mine.H
end
section
open PySem PySem.Calls PyProof.Rows PySem.W
set_option maxRecDepth 100000
set_option maxHeartbeats 4000000
namespace Mine.H
noncomputable abbrev GP : Prog := progOf' PR
noncomputable def pieceAt (k : Nat) : Stmt := (PR.main.body).getD k (.Pass default)
theorem st_at (k : Nat) : st k = pieceAt k := by
  unfold st pieceAt
  have : behindTheImports PR = PR.main.body := by kernel_rfl
  rw [this]
theorem fn12 : fnT 12 = fnOf (pieceAt 12) := by kernel_rfl
noncomputable def F12 : { f : Fn // fnT 12 = f } := by
  have h : fnOf (pieceAt 12) = fnOf (pieceAt 12) := rfl
  conv at h =>
    rhs
    arg 1
    whnf
  dsimp only [fnOf] at h
  exact ⟨_, fn12.trans h⟩
theorem map_toNat : ∀ (a b : List Char), a.map Char.toNat = b.map Char.toNat → a = b
  | [], [], _ => rfl
  | [], _ :: _, h => by cases h
  | _ :: _, [], h => by cases h
  | x :: a, y :: b, h => by
    simp only [List.map_cons, List.cons.injEq] at h
    rw [Char.ext (UInt32.toNat_inj.mp h.1), map_toNat a b h.2]
theorem of_inj (s t : String) : (Str.ofString s == Str.ofString t) = (s == t) := by
  rw [Bool.eq_iff_iff, beq_iff_eq, beq_iff_eq]
  constructor
  · intro h
    rw [Str.ofString_eq_byList] at h
    unfold Str.ofStringByList at h
    have h1 : s.toList.map Char.toNat = t.toList.map Char.toNat := by simpa using h
    have h2 : s.toList = t.toList := map_toNat _ _ h1
    exact String.toList_inj.mp h2
  · rintro rfl; rfl
section
variable {G : Prog} {n : Nat} {c : Cx} {ρ : Rho}
variable {p q : Pos} {kd : Nat} {e e1 e2 e3 : Expr} {t u : Bool} {v w z : V} {x y : Str} {b b' : Bd} {o : Option Bd}
theorem v_int {i : Int} : (lvl G (n + 1)).E c ρ (.Constant (.int i) kd p) = some (false, .int i) := rfl
theorem v_none : (lvl G (n + 1)).E c ρ (.Constant .none kd p) = some (false, .none) := rfl
theorem v_bool {i : Bool} : (lvl G (n + 1)).E c ρ (.Constant (.bool i) kd p) = some (false, .bool i) := rfl
theorem v_str {s : String} {l : List Nat} (h : (Str.ofString s).cps.toList = l) : (lvl G (n + 1)).E c ρ (.Constant (.str (Str.ofString s)) kd p) = some (false, .str l) := h ▸ rfl
theorem v_n (h : find ρ x = some (.val v)) : (lvl G (n + 1)).E c ρ (.Name x p) = some (false, v) := by
  show (find ρ x).bind bdE = _
  rw [h]; rfl
theorem v_o {l : List V} (h : find ρ x = some (.own (.lst l))) : (lvl G (n + 1)).E c ρ (.Name x p) = some (true, .lst l) := by
  show (find ρ x).bind bdE = _
  rw [h]; rfl
theorem fu_hit : find (upd ρ x b) x = some b := find_self
theorem fu_miss (h : (y == x) = false) (k : find ρ y = o) : find (upd ρ x b) y = o := (find_other fun q => by rw [q, beq_self_eq_true] at h; cases h).trans k
theorem fl_hit : find ((x, b) :: ρ) x = some b := by
  show (match x == x with | true => some b | false => find ρ x) = _
  rw [beq_self_eq_true]
theorem fl_miss (h : (y == x) = false) (k : find ρ y = o) : find ((x, b) :: ρ) y = o := by
  show (match y == x with | true => some b | false => find ρ y) = _
  rw [h]; exact k
theorem fl_nil : find [] y = Option.none := rfl
theorem l_nil {r : Evs} : evL r c ρ [] = some (false, []) := rfl
theorem l_cons {r : Evs} {es : List Expr} {vs : List V} (hs : isStar e = false) (h1 : r.E c ρ e = some (false, v)) (h2 : evL r c ρ es = some (t, vs)) : evL r c ρ (e :: es) = some (t, v :: vs) := by
  show (if isStar e = true then Option.none else (r.E c ρ e).bind fun p => (evL r c ρ es).map fun q => (p.1 || q.1, p.2 :: q.2)) = _
  rw [hs, h1, h2]; rfl
theorem l_own {r : Evs} (hs : isStar e = false) (h1 : r.E c ρ e = some (t, v)) : evL r c ρ [e] = some (t, [v]) := evL_of_one h1 hs
theorem v_bin {op : Operator} (h1 : (lvl G n).E c ρ e1 = some (t, v)) (h2 : (lvl G n).E c ρ e2 = some (u, w)) (h3 : binV op v w = some z) : (lvl G (n + 1)).E c ρ (.BinOp e1 op e2 p) = some (false, z) := by
  show (((lvl G n).E c ρ e1).bind fun p => ((lvl G n).E c ρ e2).bind fun q => binV op p.2 q.2).map f0 = _
  rw [h1, Option.bind_some, h2, Option.bind_some, h3]; rfl
theorem v_list {es : List Expr} {vs : List V} (h1 : evL (lvl G n) c ρ es = some (false, vs)) (h2 : lenOk vs.length = true) : (lvl G (n + 1)).E c ρ (.List es p) = some (false, .lst vs) := by
  show ((evL (lvl G n) c ρ es).bind fun p => if p.1 || !lenOk p.2.length then Option.none else some p.2).map (fun l => f0 (.lst l)) = _
  rw [h1, Option.bind_some, h2]; rfl
theorem v_tup {es : List Expr} {vs : List V} (h1 : evL (lvl G n) c ρ es = some (t, vs)) (h2 : lenOk vs.length = true) : (lvl G (n + 1)).E c ρ (.Tuple es kd p) = some (t, .tup vs) := by
  show ((evL (lvl G n) c ρ es).bind fun p => if lenOk p.2.length then some (p.1, V.tup p.2) else Option.none) = _
  rw [h1, Option.bind_some, h2]; rfl
theorem v_if (h1 : (lvl G n).E c ρ e1 = some (t, .bool u)) (h2 : (if u = true then (lvl G n).E c ρ e2 else (lvl G n).E c ρ e3) = some (false, v)) : (lvl G (n + 1)).E c ρ (.IfExp e1 e2 e3 p) = some (false, v) := by
  show (((lvl G n).E c ρ e1).bind fun p => boolO p.2).bind _ = _
  rw [h1]; exact h2
theorem v_ifs {a b l : List Nat} (h1 : (lvl G n).E c ρ e1 = some (t, .bool u)) (h2 : (lvl G n).E c ρ e2 = some (false, .str a)) (h3 : (lvl G n).E c ρ e3 = some (false, .str b)) (h4 : (if u = true then a else b) = l) : (lvl G (n + 1)).E c ρ (.IfExp e1 e2 e3 p) = some (false, .str l) := by
  refine v_if h1 ?_
  rw [← h4]
  cases u with
  | true => exact h2
  | false => exact h3
theorem v_cut {lo hi st : Option Expr} {a b s : Option V} (h1 : (lvl G n).E c ρ e = some (t, v)) (h2 : evOpt (lvl G n) c ρ lo = some a) (h3 : evOpt (lvl G n) c ρ hi = some b) (h4 : evOpt (lvl G n) c ρ st = some s) (h5 : sliceV v a b s = some w) : (lvl G (n + 1)).E c ρ (.Subscript e (.Slice lo hi st p) q) = some (false, w) := by
  show (((lvl G n).E c ρ e).bind fun x => (evOpt (lvl G n) c ρ lo).bind fun a => (evOpt (lvl G n) c ρ hi).bind fun b => (evOpt (lvl G n) c ρ st).bind fun s => sliceV x.2 a b s).map f0 = _
  rw [h1, Option.bind_some, h2, Option.bind_some, h3, Option.bind_some, h4, Option.bind_some, h5]; rfl
theorem o_none : evOpt (lvl G n) c ρ Option.none = some Option.none := rfl
theorem o_some (h : (lvl G n).E c ρ e = some (t, v)) : evOpt (lvl G n) c ρ (some e) = some (some v) := by
  show ((lvl G n).E c ρ e).map _ = _
  rw [h]; rfl
theorem v_sub (hs : sliceO e2 = Option.none) (h1 : (lvl G n).E c ρ e1 = some (false, v)) (h2 : (lvl G n).E c ρ e2 = some (u, w)) (h3 : subV v w = some z) : (lvl G (n + 1)).E c ρ (.Subscript e1 e2 p) = some (false, z) := by
  show (match sliceO e2 with | some p => (cutE (lvl G n) c ρ e1 p.1 p.2.1 p.2.2).map f0 | Option.none => idxE (lvl G n) c ρ e1 e2) = _
  rw [hs]
  show (((lvl G n).E c ρ e1).bind fun p => ((lvl G n).E c ρ e2).bind fun q => (subV p.2 q.2).map fun z => (tupT p.2 p.1, z)) = _
  rw [h1, Option.bind_some, h2, Option.bind_some, h3]
  cases v <;> rfl
theorem v_cmp {op : CmpOp} (hm : lastMarks [op] [e2] = false) (hs : setAsk c ρ [op] [e2] = false) (h1 : (lvl G n).E c ρ e1 = some (t, v)) (h2 : (lvl G n).E c ρ e2 = some (u, w)) {r : Bool} (h3 : cmpV op v w = some r) : (lvl G (n + 1)).E c ρ (.Compare e1 [op] [e2] p) = some (false, .bool r) := by
  show ((if lastMarks [op] [e2] || false then Option.none else ((lvl G n).E c ρ e1).bind fun p => if setAsk c ρ [op] [e2] then (intO p.2).map fun i => G.b1.any fun k => decide ((k : Int) = i) else ((lvl G n).E c ρ e2).bind fun q => (cmpV op p.2 q.2).bind fun b => some b).map fun b => f0 (.bool b)) = _
  rw [hm, h1]
  show ((if setAsk c ρ [op] [e2] = true then _ else ((lvl G n).E c ρ e2).bind fun q => (cmpV op v q.2).bind fun b => some b).map fun b => f0 (.bool b)) = _
  rw [hs, h2]
  show (((cmpV op v w).bind fun b => some b).map fun b => f0 (.bool b)) = _
  rw [h3]; rfl
theorem v_not (h1 : (lvl G n).E c ρ e = some (t, .bool u)) : (lvl G (n + 1)).E c ρ (.UnaryOp .Not e p) = some (false, .bool (!u)) := by
  show ((((lvl G n).E c ρ e).bind fun p => boolO p.2).map fun b => V.bool (!b)).map f0 = _
  rw [h1]; rfl
section
variable {args : List Expr} {vs : List V}
theorem v_fnE (h0 : find ρ x = Option.none) (h1 : isGl c x = true) (h2 : (x == nm "list") = false) (h3 : callE (lvl G n) c ρ x args = some v) : (lvl G (n + 1)).E c ρ (.Call (.Name x p) args [] q) = some (false, v) := by
  show ((if (find ρ x).isSome || !isGl c x then Option.none else if x == nm "list" then _ else callE (lvl G n) c ρ x args).map f0) = _
  rw [h0, h1, h2]
  show (callE (lvl G n) c ρ x args).map f0 = _
  rw [h3]; rfl
theorem v_bi (h0 : find ρ x = Option.none) (h1 : isGl c x = true) (h2 : (x == nm "list") = false) (h3 : evL (lvl G n) c ρ args = some (t, vs)) (h4 : biV x vs = some v) : (lvl G (n + 1)).E c ρ (.Call (.Name x p) args [] q) = some (false, v) := v_fnE h0 h1 h2 (by
  show ((evL (lvl G n) c ρ args).bind _) = _
  rw [h3, Option.bind_some]
  show (match biV x vs with | some v => some v | Option.none => _) = _
  rw [h4])
theorem v_fn (h0 : find ρ x = Option.none) (h1 : isGl c x = true) (h2 : (x == nm "list") = false) (h3 : evL (lvl G n) c ρ args = some (false, vs)) (h4 : biV x vs = Option.none) (h5 : (lvl G n).F x vs = some v) : (lvl G (n + 1)).E c ρ (.Call (.Name x p) args [] q) = some (false, v) := v_fnE h0 h1 h2 (by
  show ((evL (lvl G n) c ρ args).bind _) = _
  rw [h3, Option.bind_some]
  show (match biV x vs with | some v => some v | Option.none => (lvl G n).F x vs) = _
  rw [h4]; exact h5)
theorem v_lr {p' q' : Pos} {l : List V} (h0 : find ρ (Str.ofString "list") = Option.none) (h1 : isGl c (Str.ofString "list") = true) (h2 : find ρ (Str.ofString "range") = Option.none) (h3 : isGl c (Str.ofString "range") = true) (h4 : evL (lvl G n) c ρ args = some (t, vs)) (h5 : rangeV vs = some l) :
    (lvl G (n + 1)).E c ρ (.Call (.Name (Str.ofString "list") p) [.Call (.Name (Str.ofString "range") p') args [] q'] [] q) = some (false, .lst l) := by
  show ((if (find ρ (Str.ofString "list")).isSome || !isGl c (Str.ofString "list") then Option.none else (if (find ρ (Str.ofString "range")).isNone && true && isGl c (Str.ofString "range") then (evL (lvl G n) c ρ args).bind fun q => rangeV q.2 else Option.none).map V.lst).map f0) = _
  rw [h0, h1, h2, h3, h4]
  show ((rangeV vs).map V.lst).map f0 = _
  rw [h5]; rfl
end
theorem y_start {l : List Stmt} {q : Fl × Rho} (h : execL (lvl G n) c ρ l = some q) : (lvl G (n + 1)).X c ρ l = some q := h
theorem y_cons {r : Evs} {st : Stmt} {rest : List Stmt} {ρ' : Rho} {q : Fl × Rho} (h : execS r c ρ st = some (.next, ρ')) (k : execL r c ρ' rest = some q) : execL r c ρ (st :: rest) = some q := by
  show ((execS r c ρ st).bind _) = _
  rw [h]; exact k
theorem y_nil {r : Evs} : execL r c ρ [] = some (.next, ρ) := rfl
theorem execL_step {r : Evs} {st : Stmt} {rest : List Stmt} {ρ' : Rho} (h : execS r c ρ st = some (.next, ρ')) : execL r c ρ (st :: rest) = execL r c ρ' rest := by
  show ((execS r c ρ st).bind _) = _
  rw [h]; rfl
theorem execL_ret {r : Evs} {st : Stmt} {rest : List Stmt} {ρ' : Rho} {v : V} (h : execS r c ρ st = some (.ret v, ρ')) : execL r c ρ (st :: rest) = some (.ret v, ρ') := by
  show ((execS r c ρ st).bind _) = _
  rw [h]; rfl
theorem s_ret {r : Evs} (h : r.E c ρ e = some (t, v)) : execS r c ρ (.Return (some e) p) = some (.ret v, ρ) := by
  show ((r.E c ρ e).map fun p => (Fl.ret p.2, ρ)) = _
  rw [h]; rfl
theorem pure_of {r : Evs} (h : r.E c ρ e = some (false, v)) : pureE r c ρ e = some v := by
  unfold pureE
  rw [h]; rfl
theorem asg_of {r : Evs} (hk : okK c x = true) (hm : c.mu.contains x = false) (h : r.E c ρ e = some (false, v)) : asgB r c ρ x e = some (.val v) := by
  unfold asgB
  rw [hk, hm, pure_of h]; rfl
theorem asg_own {r : Evs} {es : List Expr} {vs : List V} (hk : okK c x = true) (hm : c.mu.contains x = true) (h : evL r c ρ es = some (false, vs)) (hl : lenOk vs.length = true) : asgB r c ρ x (.List es p) = some (.own (.lst vs)) := by
  unfold asgB
  rw [hk, hm]
  show ((evL r c ρ es).bind fun p => if p.1 || !lenOk p.2.length then Option.none else some p.2).map (fun l => Bd.own (.lst l)) = _
  rw [h, Option.bind_some, hl]; rfl
theorem s_asgB {r : Evs} (ho : oddComp e = false) (h : asgB r c ρ x e = some b) : execS r c ρ (.Assign [.Name x p] e q) = some (.next, upd ρ x b) := by
  show ((if oddComp e then Option.none else (asgB r c ρ x e).map fun b => upd ρ x b).map nx) = _
  rw [ho, h]; rfl
theorem s_asg {r : Evs} (ho : oddComp e = false) (hk : okK c x = true) (hm : c.mu.contains x = false) (h : r.E c ρ e = some (false, v)) : execS r c ρ (.Assign [.Name x p] e q) = some (.next, upd ρ x (.val v)) := s_asgB ho (asg_of hk hm h)
theorem s_pair {r : Evs} {px py pt pe : Pos} {kt ke : Nat} (ht : tupOk [.Name x px, .Name y py] [e1, e2] = true) (i1 : isStar e1 = false) (i2 : isStar e2 = false) (h1 : asgB r c ρ x e1 = some b) (h2 : asgB r c ρ y e2 = some b') : execS r c ρ (.Assign [.Tuple [.Name x px, .Name y py] kt pt] (.Tuple [e1, e2] ke pe) q) = some (.next, upd (upd ρ x b) y b') := by
  show ((if tupOk [.Name x px, .Name y py] [e1, e2] then (if isStar e1 then Option.none else (asgB r c ρ x e1).bind fun b => (if isStar e2 then Option.none else (asgB r c ρ y e2).bind fun b => (some []).map fun l => (y, b) :: l).map fun l => (x, b) :: l).map (updL ρ) else Option.none).map nx) = _
  rw [ht, i1, i2, h1, h2]; rfl
theorem s_tup2 {r : Evs} {px py pt : Pos} {kt : Nat} (ht : isTuple e = false) (hx : okN c x = true) (hy : okN c y = true) (h : r.E c ρ e = some (false, .tup [v, w])) : execS r c ρ (.Assign [.Tuple [.Name x px, .Name y py] kt pt] e q) = some (.next, upd (upd ρ x (.val v)) y (.val w)) := by
  have z : asgX r c ρ (.Tuple [.Name x px, .Name y py] kt pt) e = (pureE r c ρ e).bind (bindT c ρ (.Tuple [.Name x px, .Name y py] kt pt)) := by
    cases e with
    | Tuple => cases ht
    | _ => rfl
  show (asgX r c ρ (.Tuple [.Name x px, .Name y py] kt pt) e).map nx = _
  rw [z, pure_of h]
  show ((if okN c x then (if okN c y then some (upd (upd ρ x (.val v)) y (.val w)) else Option.none) else Option.none).map nx) = _
  rw [hx, hy]; rfl
theorem b_tup2 {px py pt : Pos} {kt : Nat} (hx : okN c x = true) (hy : okN c y = true) : bindT c ρ (.Tuple [.Name x px, .Name y py] kt pt) (.tup [v, w]) = some (upd (upd ρ x (.val v)) y (.val w)) := by
  show (if okN c x then (if okN c y then some (upd (upd ρ x (.val v)) y (.val w)) else Option.none) else Option.none) = _
  rw [hx, hy]; rfl
theorem b_name (hx : okN c x = true) : bindT c ρ (.Name x p) v = some (upd ρ x (.val v)) := by
  show (if okN c x then _ else Option.none) = _
  rw [hx]; rfl
theorem s_if {r : Evs} {bo oo : List Stmt} {q : Fl × Rho} (u : Bool) (h : r.E c ρ e = some (t, .bool u)) (k : (if u = true then r.X c ρ bo else r.X c ρ oo) = some q) : execS r c ρ (.If e bo oo p) = some q := by
  show ((r.E c ρ e).bind fun p => boolO p.2).bind _ = _
  rw [h]; exact k
theorem s_ift {r : Evs} {bo oo : List Stmt} {q : Fl × Rho} (h : r.E c ρ e = some (t, .bool true)) (k : r.X c ρ bo = some q) : execS r c ρ (.If e bo oo p) = some q := s_if true h k
theorem s_iff {r : Evs} {bo oo : List Stmt} {q : Fl × Rho} (h : r.E c ρ e = some (t, .bool false)) (k : r.X c ρ oo = some q) : execS r c ρ (.If e bo oo p) = some q := s_if false h k
theorem x_one {st : Stmt} {fl : Fl} {ρ' : Rho} (h : execS (lvl G n) c ρ st = some (fl, ρ')) : (lvl G (n + 1)).X c ρ [st] = some (fl, ρ') := by
  show ((execS (lvl G n) c ρ st).bind _) = _
  rw [h]
  cases fl <;> rfl
theorem x_nil : (lvl G (n + 1)).X c ρ [] = some (.next, ρ) := rfl
theorem v_met {o : Expr} {m : Str} {apos : Pos} {args : List Expr} {l : List Nat} {vs : List V} (hp : (apos.endLine != q.line || (decide (30 ≤ args.length) || bareCall o)) = false) (hd : dictAsk c ρ o m = false) (h1 : (lvl G n).E c ρ o = some (t, .str l)) (h2 : evL (lvl G n) c ρ args = some (u, vs)) (h3 : methS l m vs = some v) : (lvl G (n + 1)).E c ρ (.Call (.Attribute o m apos) args [] q) = some (false, v) := by
  show ((if (apos.endLine != q.line || (decide (30 ≤ args.length) || bareCall o)) = true then Option.none else if dictAsk c ρ o m = true then _ else mthE (lvl G n) c ρ o m args).map f0) = _
  rw [hp, hd]
  show (((lvl G n).E c ρ o).bind fun p => (evL (lvl G n) c ρ args).bind _).map f0 = _
  rw [h1, Option.bind_some, h2]
  show (methS l m vs).map f0 = _
  rw [h3]; rfl
theorem s_app {r : Evs} {m : Str} {p1 p2 p3 p4 : Pos} {l : List V} (hm : (m == nm "append") = true) (hp : (p2.endLine == p4.line) = true) (he : isStar e = false) (h1 : r.E c ρ e = some (false, v)) (h2 : find ρ x = some (.own (.lst l))) (h3 : l.length ≤ 1000) :
    execS r c ρ (.Expr (.Call (.Attribute (.Name x p1) m p2) [e] [] p4) p3) = some (.next, upd ρ x (.own (.lst (l ++ [v])))) := by
  show ((if (m == nm "append" && (p2.endLine == p4.line && !isStar e)) = true then (pureE r c ρ e).bind fun v => (find ρ x).bind fun b => (listB b).bind fun l => if lenOk l.length then some (upd ρ x (.own (.lst (l ++ [v])))) else Option.none else Option.none).map nx) = _
  have hl : lenOk l.length = true := decide_eq_true (by omega)
  rw [hm, hp, he, pure_of h1, h2]
  show (if lenOk l.length = true then some (upd ρ x (.own (.lst (l ++ [v])))) else Option.none).map nx = _
  rw [hl]; rfl
theorem F_of {f : Str} {g : Fn} {args : List V} {v : V} {ρ' : Rho} (h : G.fns.lookup f = some g) (hw : (f == nm "Whitespace") = false) (hl : (g.names.length == args.length) = true) (hx : (lvl G n).X (fnCx g) (g.names.zip (args.map Bd.val)) g.body = some (.ret v, ρ')) : (lvl G (n + 1)).F f args = some v := by
  show (if f == nm "Whitespace" then _ else (G.fns.lookup f).bind fun g => runF (lvl G n) g args) = _
  rw [hw, h]
  show (if g.names.length == args.length then ((lvl G n).X (fnCx g) (g.names.zip (args.map Bd.val)) g.body).bind fun q => retO q.1 else Option.none) = _
  rw [hl, hx]; rfl
theorem len_ok {k : Nat} (h : k ≤ 100000) : lenOk k = true := decide_eq_true h
theorem bin_add {a b : Int} : binV .Add (.int a) (.int b) = some (.int (a + b)) := rfl
theorem bin_sub {a b : Int} : binV .Sub (.int a) (.int b) = some (.int (a - b)) := rfl
theorem bin_mod {a b : Int} (h : b ≠ 0) : binV .Mod (.int a) (.int b) = some (.int (a.fmod b)) := by
  show (if decide (b ≠ 0) = true then _ else _) = _
  rw [decide_eq_true h]; rfl
theorem int_ok {a : Int} (h0 : -10000000 ≤ a) (h1 : a ≤ 10000000) : intOk a = true := by
  unfold intOk
  refine decide_eq_true ?_
  have h2 : a.natAbs < 2 ^ 24 := by omega
  by_cases h3 : a.natAbs = 0
  · rw [h3]; decide
  · have := (Nat.log2_lt h3).mpr h2
    omega
theorem bin_mul {a b : Int} (h : (-10000000 ≤ a ∧ a ≤ 10000000) ∧ -10000000 ≤ b ∧ b ≤ 10000000) : binV .Mult (.int a) (.int b) = some (.int (a * b)) := by
  show (if (intOk a && intOk b) = true then _ else _) = _
  rw [int_ok h.1.1 h.1.2, int_ok h.2.1 h.2.2]; rfl
theorem bin_div {a b : Int} (h : b ≠ 0 ∧ (-10000000 ≤ a ∧ a ≤ 10000000) ∧ -10000000 ≤ b ∧ b ≤ 10000000) : binV .FloorDiv (.int a) (.int b) = some (.int (a.fdiv b)) := by
  show (if (decide (b ≠ 0) && (intOk a && intOk b)) = true then _ else _) = _
  rw [int_ok h.2.1.1 h.2.1.2, int_ok h.2.2.1 h.2.2.2, decide_eq_true h.1]; rfl
theorem bin_cat {a b : List Nat} (h : a.length + b.length ≤ 100000) : binV .Add (.str a) (.str b) = some (.str (a ++ b)) := by
  show (if lenOk _ = true then _ else _) = _
  rw [len_ok h]; rfl
theorem bin_rep {a : List Nat} {b : Int} (h : (-1000000000 ≤ b ∧ b ≤ 1000000000) ∧ a.length * b.toNat ≤ 100000) : binV .Mult (.str a) (.int b) = some (.str (List.replicate b.toNat a).flatten) := by
  show (if (smallI b && lenOk _) = true then _ else _) = _
  rw [len_ok h.2]
  have : smallI b = true := by simp [smallI, h.1.1, h.1.2]
  rw [this]; rfl
theorem sub_at {l : List V} {i : Int} {v : V} (h0 : 0 ≤ i) (h1 : i < l.length) (hl : l.length ≤ 1000) (hv : l[i.toNat]? = some v) : subV (.lst l) (.int i) = some v := by
  show (idxAt l.length i).bind (fun k => l[k]?) = _
  have : idxAt l.length i = some i.toNat := by
    unfold idxAt
    have hs : smallI i = true := by simp [smallI]; omega
    rw [hs, if_neg (by simp), if_pos h0, if_pos h1]
  rw [this]; exact hv
theorem bi_chr {i : Int} (h0 : 0 ≤ i) (h1 : i < 55296 ∨ 57343 < i ∧ i < 1114112) : biV (Str.ofString "chr") [.int i] = some (.str [i.toNat]) := by
  show (if (decide (0 ≤ i) && decide (i < 55296) || decide (57343 < i) && decide (i < 1114112)) = true then _ else _) = _
  rw [if_pos]
  simp only [Bool.or_eq_true, Bool.and_eq_true, decide_eq_true_eq]
  omega
theorem bi_len {l : List Nat} (h : l.length ≤ 100000) : biV (Str.ofString "len") [.str l] = some (.int l.length) := by
  show (if lenOk l.length = true then _ else _) = _
  rw [len_ok h]; rfl
theorem bi_ord {k : Nat} : biV (Str.ofString "ord") [.str [k]] = some (.int k) := rfl
theorem bi_int {b : Bool} : biV (Str.ofString "int") [.bool b] = some (.int (if b then 1 else 0)) := rfl
theorem cmp_eqs {a b : List Nat} : cmpV .Eq (.str a) (.str b) = some (decide (a = b)) := rfl
theorem bin_catL {a b : List V} (h : a.length + b.length ≤ 100000) : binV .Add (.lst a) (.lst b) = some (.lst (a ++ b)) := by
  show (if lenOk _ = true then _ else _) = _
  rw [len_ok h]; rfl
theorem lit_open : (Str.ofString "(").cps.toList = [40] := by decide +kernel
theorem lit_shut : (Str.ofString ")").cps.toList = [41] := by decide +kernel
theorem lit_empty : (Str.ofString "").cps.toList = [] := by decide +kernel
theorem lit_quote : (Str.ofString "\"").cps.toList = [34] := by decide +kernel
theorem lit_back : (Str.ofString "\\").cps.toList = [92] := by decide +kernel
theorem lit_bq : (Str.ofString "\\\"").cps.toList = [92, 34] := by decide +kernel
end
end Mine.H
end
local macro_rules | `(tactic| walk_at "ev") => `(tactic| first
  | with_reducible assumption
  | with_reducible exact Mine.H.v_int
  | with_reducible exact Mine.H.v_none
  | with_reducible exact Mine.H.v_bool
  | with_reducible exact Mine.H.l_nil
  | with_reducible exact Mine.H.o_none
  | with_reducible exact Mine.H.fu_hit
  | with_reducible exact Mine.H.fl_hit
  | with_reducible exact Mine.H.fl_nil
  | with_reducible exact Mine.H.bin_add
  | with_reducible exact Mine.H.bin_sub
  | ((with_reducible apply Mine.H.v_str); with_reducible first | exact Mine.H.lit_open | exact Mine.H.lit_shut | exact Mine.H.lit_empty | exact Mine.H.lit_quote | exact Mine.H.lit_back | exact Mine.H.lit_bq)
  | ((with_reducible apply Mine.H.fu_miss); (· kernel_rfl); (· walk_at "ev"))
  | ((with_reducible apply Mine.H.fl_miss); (· kernel_rfl); (· walk_at "ev"))
  | ((with_reducible apply Mine.H.v_n); walk_at "ev")
  | ((with_reducible apply Mine.H.v_o); walk_at "ev")
  | ((with_reducible apply Mine.H.l_cons); (· rfl); all_goals walk_at "ev")
  | ((with_reducible apply Mine.H.v_bin) <;> walk_at "ev")
  | ((with_reducible apply Mine.H.v_list); (· walk_at "ev"); (· rfl))
  | ((with_reducible apply Mine.H.v_tup); (· walk_at "ev"); (· rfl))
  | ((with_reducible apply Mine.H.v_sub); (· rfl); all_goals walk_at "ev")
  | ((with_reducible apply Mine.H.v_lr) <;> walk_at "ev")
  | ((with_reducible apply Mine.H.v_bi); (· walk_at "ev"); (· walk_at "ev"); (· kernel_rfl); (· walk_at "ev"); (· walk_at "ev"))
  | ((with_reducible apply Mine.H.v_cmp); (· rfl); (· rfl); all_goals walk_at "ev")
  | ((with_reducible apply Mine.H.bin_mod); decide)
  | ((with_reducible apply Mine.H.s_tup2); (· rfl); all_goals walk_at "ev")
  | ((with_reducible apply Mine.H.s_asg); (· rfl); all_goals walk_at "ev")
  | ((with_reducible apply Mine.H.s_ret); walk_at "ev")
  | with_reducible exact Mine.H.cmp_eqs
  | ((with_reducible apply Mine.H.v_ifs) <;> walk_at "ev")
  | ((with_reducible apply Mine.H.asg_of) <;> walk_at "ev")
  | ((with_reducible apply Mine.H.s_pair); (· kernel_rfl); (· rfl); (· rfl); all_goals walk_at "ev")
  | ((with_reducible apply Mine.H.bin_catL); decide)
  | ((with_reducible apply Mine.H.v_cut) <;> walk_at "ev")
  | ((with_reducible apply Mine.H.o_some); walk_at "ev")
  | ((with_reducible apply Mine.H.s_app); (· kernel_rfl); (· rfl); (· rfl); (· walk_at "ev"); (· walk_at "ev"); (· omega))
  | ((with_reducible apply Mine.H.asg_own); (· walk_at "ev"); (· walk_at "ev"); (· walk_at "ev"); (· rfl))
  | ((with_reducible apply Mine.H.s_asgB); (· rfl); walk_at "ev"))
section
open PySem PySem.Calls PyProof.Rows PySem.W
set_option maxRecDepth 100000
set_option maxHeartbeats 4000000
namespace Mine.H
noncomputable def c12 : Cx := fnCx (fnT 12)
theorem ok12 : (["sign", "other", "ahead", "behind", "letter", "great", "ride", "small", "row", "unseen"].all fun x => okN c12 (Str.ofString x) && okK c12 (Str.ofString x)) = true := by kernel_rfl
theorem mu12 : c12.mu = [] := by kernel_rfl
theorem gl12 : (isGl c12 (Str.ofString "chr")) = true := by kernel_rfl
noncomputable def sg (x : Int) : Nat := if x.fmod 2 = 0 then 40 else 41
noncomputable def ot (x : Int) : Nat := if x.fmod 2 = 0 then 41 else 40
noncomputable def pA (x : Int) : Int := if (x.fdiv 2).fmod 3 = 1 then 2 else 0
noncomputable def pB (x : Int) : Int := if (x.fdiv 2).fmod 3 = 2 then 2 else 0
noncomputable def le (x : Int) : Int := (x.fdiv 972).fmod 26
noncomputable def giL : List Int := [0, 1, 2, 4, 7, 8, 9, 10, 11, 12]
noncomputable def gi (x : Int) : Int := giL.getD ((x.fdiv 25272).fmod 10).toNat 0
noncomputable def gr (x : Int) : Nat := (119808 + 52 * gi x + le x).toNat
noncomputable def qs (l : Int) : List Nat := (List.replicate (2 - l).toNat [34]).flatten
noncomputable def bk (i : Int) : List Nat := (List.replicate i.toNat [92]).flatten
noncomputable def rd (x l : Int) : List Nat := [[], [34, ot x, 34], [92, ot x], [gr x], [92, 34], qs l].getD ((x.fdiv 6).fmod 6).toNat []
noncomputable def sm (x l : Int) : List Nat := if rd x l = [gr x] then [(97 + le x).toNat] else rd x l
noncomputable def un (x : Int) : Nat := b1L.getD ((x.fdiv 36).fmod 27).toNat 0
theorem fm {a b : Int} (h : 0 < b) : 0 ≤ a.fmod b ∧ a.fmod b < b := ⟨Int.fmod_nonneg_of_pos _ h, Int.fmod_lt_of_pos _ h⟩
theorem fd {a b : Int} (h0 : 0 ≤ a) (h1 : a ≤ 1000000) (hb : 0 < b) : 0 ≤ a.fdiv b ∧ a.fdiv b ≤ 1000000 := by
  rw [Int.fdiv_eq_ediv_of_nonneg _ (by omega)]
  constructor
  · exact Int.ediv_nonneg h0 (by omega)
  · have := Int.ediv_le_self b h0
    omega
theorem L_sign {x : Int} : subV (.lst [.tup [.str [40], .str [41]], .tup [.str [41], .str [40]]]) (.int (x.fmod 2)) = some (.tup [.str [sg x], .str [ot x]]) := by
  have h := fm (a := x) (b := 2) (by omega)
  refine sub_at h.1 (by simp; omega) (by simp) ?_
  rcases (by omega : x.fmod 2 = 0 ∨ x.fmod 2 = 1) with e | e <;> simp [sg, ot, e]
theorem L_ab {x : Int} : subV (.lst [.tup [.int 0, .int 0], .tup [.int 2, .int 0], .tup [.int 0, .int 2]]) (.int ((x.fdiv 2).fmod 3)) = some (.tup [.int (pA x), .int (pB x)]) := by
  have h := fm (a := x.fdiv 2) (b := 3) (by omega)
  refine sub_at h.1 (by simp; omega) (by simp) ?_
  rcases (by omega : (x.fdiv 2).fmod 3 = 0 ∨ (x.fdiv 2).fmod 3 = 1 ∨ (x.fdiv 2).fmod 3 = 2) with e | e | e <;> simp [pA, pB, e]
theorem map_getD {l : List Int} {i : Nat} (h : i < l.length) : (l.map V.int)[i]? = some (.int (l.getD i 0)) := by
  rw [List.getElem?_map, List.getD_eq_getElem?_getD, List.getElem?_eq_getElem h]; rfl
theorem map_getS {l : List (List Nat)} {i : Nat} (h : i < l.length) : (l.map V.str)[i]? = some (.str (l.getD i [])) := by
  rw [List.getElem?_map, List.getD_eq_getElem?_getD, List.getElem?_eq_getElem h]; rfl
theorem fm_nat {a b : Int} {n : Nat} (h : 0 < b) (hn : b = n) : (a.fmod b).toNat < n := by
  have := fm (a := a) h
  omega
theorem L_gi {x : Int} : subV (.lst [.int 0, .int 1, .int 2, .int 4, .int 7, .int 8, .int 9, .int 10, .int 11, .int 12]) (.int ((x.fdiv 25272).fmod 10)) = some (.int (gi x)) :=
  have h := fm (a := x.fdiv 25272) (b := 10) (by omega)
  sub_at h.1 h.2 (by decide) (map_getD (l := giL) (fm_nat (n := 10) (by omega) rfl))
theorem L_rd {x l : Int} : subV (.lst [.str [], .str [34, ot x, 34], .str [92, ot x], .str [gr x], .str [92, 34], .str (qs l)]) (.int ((x.fdiv 6).fmod 6)) = some (.str (rd x l)) :=
  have h := fm (a := x.fdiv 6) (b := 6) (by omega)
  sub_at h.1 h.2 (Nat.le_of_ble_eq_true rfl) (map_getS (l := [[], [34, ot x, 34], [92, ot x], [gr x], [92, 34], qs l]) (fm_nat (n := 6) (by omega) rfl))
theorem L_un {x : Int} : subV (.lst (b1L.map fun (k : Nat) => V.int (k : Int))) (.int ((x.fdiv 36).fmod 27)) = some (.int (un x)) := by
  have h := fm (a := x.fdiv 36) (b := 27) (by omega)
  refine sub_at h.1 (by simp [b1L]; omega) (by simp [b1L]) ?_
  rw [List.getElem?_map, un, List.getD_eq_getElem?_getD]
  have : ((x.fdiv 36).fmod 27).toNat < b1L.length := by simp [b1L]; omega
  rw [List.getElem?_eq_getElem this]; rfl
theorem bk_len {i : Int} : (bk i).length = i.toNat := by simp [bk]
theorem all_getD {α : Type} {d : α} {P : α → Prop} : ∀ {l : List α} (_ : ∀ y ∈ l, P y) (_ : P d) (i : Nat), P (l.getD i d)
  | [], _, h, _ => h
  | y :: l, a, h, 0 => a y List.mem_cons_self
  | y :: l, a, h, i + 1 => all_getD (fun z hz => a z (List.mem_cons_of_mem _ hz)) h i
theorem rd_len {x l : Int} (h : 0 ≤ l) : (rd x l).length ≤ 3 := by
  refine all_getD (P := fun y : List Nat => y.length ≤ 3) (fun y hy => ?_) (by decide) _
  have hq : (qs l).length ≤ 3 := by simp [qs]; omega
  simp only [List.mem_cons, List.not_mem_nil, or_false] at hy
  rcases hy with rfl | rfl | rfl | rfl | rfl | rfl <;> first | exact hq | decide | exact Nat.le_of_ble_eq_true rfl
theorem sm_len {x l : Int} (h : 0 ≤ l) : (sm x l).length ≤ 3 := by
  unfold sm
  split
  · simp
  · exact rd_len h
theorem pA_range {x : Int} : 0 ≤ pA x ∧ pA x ≤ 2 := by unfold pA; split <;> omega
theorem pB_range {x : Int} : 0 ≤ pB x ∧ pB x ≤ 2 := by unfold pB; split <;> omega
theorem rng16 : rangeV [.int 65024, .int 65040] = some (rangeL 65024 65040) := rfl
theorem rowL : ([V.int 173, .int 847, .int 6150, .int 6155, .int 6156, .int 6157, .int 8203, .int 8204, .int 8205, .int 8288, .int 65279] ++ rangeL 65024 65040) = b1L.map fun (k : Nat) => V.int (k : Int) := by kernel_rfl
theorem L_unr {x : Int} : subV (.lst ([V.int 173, .int 847, .int 6150, .int 6155, .int 6156, .int 6157, .int 8203, .int 8204, .int 8205, .int 8288, .int 65279] ++ rangeL 65024 65040)) (.int ((x.fdiv 36).fmod 27)) = some (.int (un x)) := by
  rw [rowL]; exact L_un
theorem gl12l : (isGl c12 (Str.ofString "list")) = true := by kernel_rfl
theorem gl12r : (isGl c12 (Str.ofString "range")) = true := by kernel_rfl
theorem gi_range {x : Int} : 0 ≤ gi x ∧ gi x ≤ 12 := all_getD (P := fun y => 0 ≤ y ∧ y ≤ 12) (by decide) (by decide) _
theorem le_range {x : Int} : 0 ≤ le x ∧ le x < 26 := fm (by omega)
theorem un_range {x : Int} : un x < 55296 ∨ 57343 < un x ∧ un x < 1114112 := by
  have h : un x ∈ b1L := by
    have h := fm (a := x.fdiv 36) (b := 27) (by omega)
    unfold un
    rw [List.getD_eq_getElem?_getD]
    have : ((x.fdiv 36).fmod 27).toNat < b1L.length := by simp [b1L]; omega
    rw [List.getElem?_eq_getElem this]
    exact List.getElem_mem this
  have : ∀ k ∈ b1L, k < 55296 ∨ 57343 < k ∧ k < 1114112 := by decide +kernel
  exact this _ h
theorem mu12f (y : Str) : c12.mu.contains y = false := by rw [mu12]; rfl
theorem cell_X (n : Nat) (x o m l : Int) (hx0 : 0 ≤ x) (hx1 : x < 1000000) (ho : 0 ≤ o ∧ o ≤ 1) (hm : 0 ≤ m ∧ m ≤ 1) (hl : 0 ≤ l ∧ l ≤ 1) : ∃ ρ', (lvl GP (n + 12)).X c12 [(nm "n", .val (.int x)), (nm "odd", .val (.int o)), (nm "more", .val (.int m)), (nm "last", .val (.int l))] F12.val.body =
    some (.ret (.tup [.str (rd x l ++ bk (pA x + o) ++ [un x] ++ bk (pB x + o * m) ++ [sg x]), .str (sm x l ++ bk (pA x + o + (pB x + o * m)) ++ [sg x])]), ρ') := by
  have hok := ok12
  simp only [List.all_cons, List.all_nil, Bool.and_true, Bool.and_eq_true] at hok
  obtain ⟨⟨k0, j0⟩, ⟨k1, j1⟩, ⟨k2, j2⟩, ⟨k3, j3⟩, ⟨k4, j4⟩, ⟨k5, j5⟩, ⟨k6, j6⟩, ⟨k7, j7⟩, ⟨k8, j8⟩, ⟨k9, j9⟩⟩ := hok
  have d2 := fd (a := x) (b := 2) hx0 (by omega) (by omega)
  have d6 := fd (a := x) (b := 6) hx0 (by omega) (by omega)
  have d36 := fd (a := x) (b := 36) hx0 (by omega) (by omega)
  have d972 := fd (a := x) (b := 972) hx0 (by omega) (by omega)
  have d25272 := fd (a := x) (b := 25272) hx0 (by omega) (by omega)
  have D : ∀ b : Int, b ≠ 0 → -10000000 ≤ b → b ≤ 10000000 → binV .FloorDiv (.int x) (.int b) = some (.int (x.fdiv b)) := fun b h1 h2 h3 => bin_div ⟨h1, ⟨by omega, by omega⟩, h2, h3⟩
  have D2 := D 2 (by omega) (by omega) (by omega)
  have D6 := D 6 (by omega) (by omega) (by omega)
  have D36 := D 36 (by omega) (by omega) (by omega)
  have D972 := D 972 (by omega) (by omega) (by omega)
  have D25272 := D 25272 (by omega) (by omega) (by omega)
  have M1 : binV .Mult (.int o) (.int m) = some (.int (o * m)) := bin_mul ⟨⟨by omega, by omega⟩, by omega, by omega⟩
  have hg := gi_range (x := x)
  have hle := le_range (x := x)
  have M2 : binV .Mult (.int 52) (.int (gi x)) = some (.int (52 * gi x)) := bin_mul ⟨⟨by omega, by omega⟩, by omega, by omega⟩
  have C1 : biV (Str.ofString "chr") [.int (119808 + 52 * gi x + le x)] = some (.str [gr x]) := bi_chr (by omega) (by omega)
  have C2 : biV (Str.ofString "chr") [.int (97 + le x)] = some (.str [(97 + le x).toNat]) := bi_chr (by omega) (by omega)
  have C3 : biV (Str.ofString "chr") [.int (un x)] = some (.str [un x]) := by
    rw [bi_chr (by omega) (by have := un_range (x := x); omega)]
    simp
  have hsm : (if rd x l = [gr x] then [(97 + le x).toNat] else rd x l) = sm x l := rfl
  have hA := pA_range (x := x)
  have hB := pB_range (x := x)
  have hom : 0 ≤ o * m ∧ o * m ≤ 1 := by
    rcases (by omega : o = 0 ∨ o = 1) with e | e <;> subst e <;> omega
  have R1 : binV .Mult (.str [34]) (.int (2 - l)) = some (.str (qs l)) := bin_rep ⟨⟨by omega, by omega⟩, by simp; omega⟩
  have RA : binV .Mult (.str [92]) (.int (pA x + o)) = some (.str (bk (pA x + o))) := bin_rep ⟨⟨by omega, by omega⟩, by simp; omega⟩
  have RB : binV .Mult (.str [92]) (.int (pB x + o * m)) = some (.str (bk (pB x + o * m))) := bin_rep ⟨⟨by omega, by omega⟩, by simp; omega⟩
  have RAB : binV .Mult (.str [92]) (.int (pA x + o + (pB x + o * m))) = some (.str (bk (pA x + o + (pB x + o * m)))) := bin_rep ⟨⟨by omega, by omega⟩, by simp; omega⟩
  have hrd := rd_len (x := x) hl.1
  have hsml := sm_len (x := x) hl.1
  have K1 : binV .Add (.str (rd x l)) (.str (bk (pA x + o))) = some (.str (rd x l ++ bk (pA x + o))) := bin_cat (by simp only [bk_len]; omega)
  have K2 : binV .Add (.str (rd x l ++ bk (pA x + o))) (.str [un x]) = some (.str (rd x l ++ bk (pA x + o) ++ [un x])) := bin_cat (by simp only [List.length_append, bk_len, List.length_singleton]; omega)
  have K3 : binV .Add (.str (rd x l ++ bk (pA x + o) ++ [un x])) (.str (bk (pB x + o * m))) = some (.str (rd x l ++ bk (pA x + o) ++ [un x] ++ bk (pB x + o * m))) := bin_cat (by simp only [List.length_append, bk_len, List.length_singleton]; omega)
  have K4 : binV .Add (.str (rd x l ++ bk (pA x + o) ++ [un x] ++ bk (pB x + o * m))) (.str [sg x]) = some (.str (rd x l ++ bk (pA x + o) ++ [un x] ++ bk (pB x + o * m) ++ [sg x])) := bin_cat (by simp only [List.length_append, bk_len, List.length_singleton]; omega)
  have K5 : binV .Add (.str (sm x l)) (.str (bk (pA x + o + (pB x + o * m)))) = some (.str (sm x l ++ bk (pA x + o + (pB x + o * m)))) := bin_cat (by simp only [bk_len]; omega)
  have K6 : binV .Add (.str (sm x l ++ bk (pA x + o + (pB x + o * m)))) (.str [sg x]) = some (.str (sm x l ++ bk (pA x + o + (pB x + o * m)) ++ [sg x])) := bin_cat (by simp only [List.length_append, bk_len, List.length_singleton]; omega)
  simp only [le] at C1 C2 hsm
  have hsm : (if decide (rd x l = [gr x]) = true then [(97 + (x.fdiv 972).fmod 26).toNat] else rd x l) = sm x l := by rw [← hsm]; simp only [decide_eq_true_eq]
  have q0 := L_sign (x := x)
  have q1 := L_ab (x := x)
  have q2 := L_gi (x := x)
  have q3 := L_rd (x := x) (l := l)
  have q4 := L_unr (x := x)
  have q5 : binV .Add (.str [34]) (.str [ot x]) = some (.str [34, ot x]) := rfl
  have q6 : binV .Add (.str [34, ot x]) (.str [34]) = some (.str [34, ot x, 34]) := rfl
  have q7 : binV .Add (.str [92]) (.str [ot x]) = some (.str [92, ot x]) := rfl
  have q8 := rng16
  clear D d2 d6 d36 d972 d25272 hA hB hom hg hle hm ho hl hx0 hx1 hrd hsml
  have u0 := mu12f (Str.ofString "ahead"); have u1 := mu12f (Str.ofString "behind"); have u2 := mu12f (Str.ofString "letter"); have u3 := mu12f (Str.ofString "great"); have u4 := mu12f (Str.ofString "ride"); have u5 := mu12f (Str.ofString "small"); have u6 := mu12f (Str.ofString "row"); have u7 := mu12f (Str.ofString "unseen")
  have z0 := gl12
  have z1 := gl12l
  have z2 := gl12r
  apply Exists.intro
  show (lvl GP (n + 12)).X c12 [(Str.ofString "n", .val (.int x)), (Str.ofString "odd", .val (.int o)), (Str.ofString "more", .val (.int m)), (Str.ofString "last", .val (.int l))] F12.val.body = _
  dsimp only [F12]
  apply y_start
  iterate 9
    apply y_cons
    · walk_at "ev"
  apply execL_ret
  walk_at "ev"
theorem cell_F (n : Nat) (x o m l : Int) (hx0 : 0 ≤ x) (hx1 : x < 1000000) (ho : 0 ≤ o ∧ o ≤ 1) (hm : 0 ≤ m ∧ m ≤ 1) (hl : 0 ≤ l ∧ l ≤ 1) : (lvl GP (n + 13)).F (nm "_law_cell") [.int x, .int o, .int m, .int l] =
    some (.tup [.str (rd x l ++ bk (pA x + o) ++ [un x] ++ bk (pB x + o * m) ++ [sg x]), .str (sm x l ++ bk (pA x + o + (pB x + o * m)) ++ [sg x])]) := by
  obtain ⟨ρ', h⟩ := cell_X n x o m l hx0 hx1 ho hm hl
  rw [← F12.2] at h
  exact F_of (g := fnT 12) (by kernel_rfl) (by kernel_rfl) (by kernel_rfl) h
end Mine.H
end
section
open PySem PySem.Calls PyProof.Rows PySem.W
set_option maxRecDepth 100000
set_option maxHeartbeats 0
namespace Mine.H
noncomputable def c17 : Cx := fnCx (fnT 17)
noncomputable def EndAt5 (s : List Nat) : Prop := ∀ (a b c d e f g h i : Bd), (execL (lvl GP 39) c17 [(nm "far", a), (nm "short", .val (.str s)), (nm "faces", b), (nm "told", c), (nm "text", d), (nm "cells", e), (nm "more", f), (nm "spot", g), (nm "numbers", h), (nm "script", i)] ((fnT 17).body.drop 11)).map (·.1) = some (.ret (.bool true))
theorem end_00000 : EndAt5 [40, 40, 40, 40, 40] := fun a b c d e f g h i => by kernel_rfl
theorem all_cut {α : Type} {f : α → Bool} {l : List α} (k : Nat) (h : (l.take k).all f = true) (h' : (l.drop k).all f = true) : l.all f = true := by
  rw [← List.take_append_drop k l, List.all_append, h, h']; rfl
end Mine.H
end
section
open PySem PySem.Calls PyProof.Rows PySem.W
set_option maxRecDepth 100000
set_option maxHeartbeats 0
namespace Mine.H
theorem end_00001 : EndAt5 [40, 40, 40, 40, 41] := fun a b c d e f g h i => by kernel_rfl
theorem end_00010 : EndAt5 [40, 40, 40, 41, 40] := fun a b c d e f g h i => by kernel_rfl
theorem end_00011 : EndAt5 [40, 40, 40, 41, 41] := fun a b c d e f g h i => by kernel_rfl
theorem end_00100 : EndAt5 [40, 40, 41, 40, 40] := fun a b c d e f g h i => by kernel_rfl
theorem end_00101 : EndAt5 [40, 40, 41, 40, 41] := fun a b c d e f g h i => by kernel_rfl
theorem end_00110 : EndAt5 [40, 40, 41, 41, 40] := fun a b c d e f g h i => by kernel_rfl
theorem end_00111 : EndAt5 [40, 40, 41, 41, 41] := fun a b c d e f g h i => by kernel_rfl
theorem end_01000 : EndAt5 [40, 41, 40, 40, 40] := fun a b c d e f g h i => by kernel_rfl
end Mine.H
end
section
open PySem PySem.Calls PyProof.Rows PySem.W
set_option maxRecDepth 100000
set_option maxHeartbeats 0
namespace Mine.H
theorem end_01001 : EndAt5 [40, 41, 40, 40, 41] := fun a b c d e f g h i => by kernel_rfl
theorem end_01010 : EndAt5 [40, 41, 40, 41, 40] := fun a b c d e f g h i => by kernel_rfl
theorem end_01011 : EndAt5 [40, 41, 40, 41, 41] := fun a b c d e f g h i => by kernel_rfl
theorem end_01100 : EndAt5 [40, 41, 41, 40, 40] := fun a b c d e f g h i => by kernel_rfl
theorem end_01101 : EndAt5 [40, 41, 41, 40, 41] := fun a b c d e f g h i => by kernel_rfl
theorem end_01110 : EndAt5 [40, 41, 41, 41, 40] := fun a b c d e f g h i => by kernel_rfl
theorem end_01111 : EndAt5 [40, 41, 41, 41, 41] := fun a b c d e f g h i => by kernel_rfl
theorem end_10000 : EndAt5 [41, 40, 40, 40, 40] := fun a b c d e f g h i => by kernel_rfl
end Mine.H
end
section
open PySem PySem.Calls PyProof.Rows PySem.W
set_option maxRecDepth 100000
set_option maxHeartbeats 0
namespace Mine.H
theorem end_10001 : EndAt5 [41, 40, 40, 40, 41] := fun a b c d e f g h i => by kernel_rfl
theorem end_10010 : EndAt5 [41, 40, 40, 41, 40] := fun a b c d e f g h i => by kernel_rfl
theorem end_10011 : EndAt5 [41, 40, 40, 41, 41] := fun a b c d e f g h i => by kernel_rfl
theorem end_10100 : EndAt5 [41, 40, 41, 40, 40] := fun a b c d e f g h i => by kernel_rfl
theorem end_10101 : EndAt5 [41, 40, 41, 40, 41] := fun a b c d e f g h i => by kernel_rfl
theorem end_10110 : EndAt5 [41, 40, 41, 41, 40] := fun a b c d e f g h i => by kernel_rfl
theorem end_10111 : EndAt5 [41, 40, 41, 41, 41] := fun a b c d e f g h i => by kernel_rfl
theorem end_11000 : EndAt5 [41, 41, 40, 40, 40] := fun a b c d e f g h i => by kernel_rfl
end Mine.H
end
section
open PySem PySem.Calls PyProof.Rows PySem.W
set_option maxRecDepth 100000
set_option maxHeartbeats 0
namespace Mine.H
theorem end_11001 : EndAt5 [41, 41, 40, 40, 41] := fun a b c d e f g h i => by kernel_rfl
theorem end_11010 : EndAt5 [41, 41, 40, 41, 40] := fun a b c d e f g h i => by kernel_rfl
theorem end_11011 : EndAt5 [41, 41, 40, 41, 41] := fun a b c d e f g h i => by kernel_rfl
theorem end_11100 : EndAt5 [41, 41, 41, 40, 40] := fun a b c d e f g h i => by kernel_rfl
theorem end_11101 : EndAt5 [41, 41, 41, 40, 41] := fun a b c d e f g h i => by kernel_rfl
theorem end_11110 : EndAt5 [41, 41, 41, 41, 40] := fun a b c d e f g h i => by kernel_rfl
theorem end_11111 : EndAt5 [41, 41, 41, 41, 41] := fun a b c d e f g h i => by kernel_rfl
end Mine.H
end
section
open PySem PySem.Calls PyProof.Rows PySem.W
set_option maxRecDepth 100000
set_option maxHeartbeats 0
namespace Mine.H
noncomputable def leadLvl (row : List Nat) : Option Int := ((lvl GP 35).F (nm "_law_lead") [.str row]).bind fun o => match o with
  | .obj ns fs => if ns.contains (nm "indent_level") then none else match (lvl GP 36).M (nm "indent_level") (.obj ns fs) [.int 1] with
    | some (.int i) => some i
    | _ => none
  | _ => none
noncomputable def bitsL : Nat → List (List Nat)
  | 0 => [[]]
  | n + 1 => (bitsL n).flatMap fun l => [l ++ [40], l ++ [41]]
noncomputable def ivF (row : List Nat) : Int := ((row.zipIdx.filter fun p => p.1 == 40).map fun p => (p.2 : Int) + 1).sum
noncomputable def cntF (c : Nat) (l : List Nat) : Nat := (l.filter (· == c)).length
noncomputable def backF (row : List Nat) (far : Nat) : List Nat :=
  let opened := cntF 40 row
  if far ≤ opened then match (List.range (row.length + 1)).find? (fun k => cntF 40 (row.drop k) == far) with
    | some k => row.take k ++ 41 :: row.drop k
    | none => []
  else match (List.range (row.length + 1)).find? (fun k => cntF 41 (row.take k) == far - opened - 1) with
    | some k => row.take k ++ 40 :: row.drop k
    | none => []
theorem lead61 : ((bitsL 6).take 32).all (fun r => leadLvl r == some (ivF r)) = true := by kernel_rfl
theorem lead62 : ((bitsL 6).drop 32).all (fun r => leadLvl r == some (ivF r)) = true := by kernel_rfl
theorem lead6 : (bitsL 6).all (fun r => leadLvl r == some (ivF r)) = true := all_cut 32 lead61 lead62
theorem lead5 : (bitsL 5).all (fun r => leadLvl r == some (ivF r)) = true := by kernel_rfl
noncomputable def strOf : Option V → List Nat
  | some (.str s) => s
  | _ => [0]
noncomputable def backOk (r : List Nat) (f : Nat) : Bool := strOf ((lvl GP 37).F (nm "_law_back") [.str r, .int (f : Int)]) == backF r f
theorem back51 : ((bitsL 5).take 16).all (fun r => (List.range 7).all fun f => backOk r f) = true := by kernel_rfl
theorem back52 : ((bitsL 5).drop 16).all (fun r => (List.range 7).all fun f => backOk r f) = true := by kernel_rfl
theorem back5 : (bitsL 5).all (fun r => (List.range 7).all fun f => backOk r f) = true := all_cut 16 back51 back52
theorem six_back : (bitsL 6).all (fun r => (List.range 6).all fun s => backF (r.eraseIdx s) (((ivF r - ivF (r.eraseIdx s)).fmod 7).toNat) == r) = true := by kernel_rfl
end Mine.H
end
section
open PySem PySem.Calls PyProof.Rows PySem.W
set_option maxRecDepth 100000
set_option maxHeartbeats 4000000
namespace Mine.H
noncomputable def fnX (k : Nat) : Fn := fnOf (pieceAt k)
theorem fnX_eq (k : Nat) : fnT k = fnX k := by rw [fnT, st_at]; rfl
theorem fn17 : fnT 17 = fnOf (pieceAt 17) := by kernel_rfl
noncomputable def F17 : { f : Fn // fnT 17 = f } := by
  have h : fnOf (pieceAt 17) = fnOf (pieceAt 17) := rfl
  conv at h =>
    rhs
    arg 1
    whnf
  dsimp only [fnOf] at h
  exact ⟨_, fn17.trans h⟩
noncomputable def sumF (f : Nat → Int) : List Nat → Int
  | [] => 0
  | i :: r => f i + sumF f r
noncomputable def nK (f : Nat → Int) (m : Nat) (b : Int) (k : Nat) : Int := (b + sumF f ((List.range m).filter fun i => Nat.ble k i && Nat.beq ((i - k) % 7) 0)).fmod 1000000
noncomputable def numsF (f : Nat → Int) (m : Nat) : List Int := [(26, 0), (115, 1), (268, 2), (5238, 3), (399, 4), (967, 5), (3, 6)].map fun (p : Int × Nat) => (p.1 + sumF f ((List.range m).filter fun i => Nat.ble p.2 i && Nat.beq ((i - p.2) % 7) 0)).fmod 1000000
theorem s0_all : (fun (f : Nat → Int) (n : Nat) => (List.range 64).map fun m => execS (lvl GP (n + 9)) c17 [(nm "script", .val (.lst (((List.range m).map f).map V.int)))] ((fnT 17).body.getD 0 (.Pass default))) =
    fun f n => (List.range 64).map fun m => some (Fl.next, [(nm "numbers", .val (.lst ((numsF f m).map V.int))), (nm "script", .val (.lst (((List.range m).map f).map V.int)))]) := by kernel_rfl
theorem s0 (l : List Int) (h : l.length ≤ 63) : ∃ n0 n1 n2 n3 n4 n5 n6 : Int, (∀ x ∈ [n0, n1, n2, n3, n4, n5, n6], 0 ≤ x ∧ x < 1000000) ∧ ∀ n, execS (lvl GP (n + 9)) c17 [(nm "script", .val (.lst (l.map V.int)))] ((fnT 17).body.getD 0 (.Pass default)) =
    some (.next, [(nm "numbers", .val (.lst [.int n0, .int n1, .int n2, .int n3, .int n4, .int n5, .int n6])), (nm "script", .val (.lst (l.map V.int)))]) := by
  have hl : (List.range l.length).map (fun i => l.getD i 0) = l := by
    apply List.ext_getElem
    · simp
    · intro i h1 h2
      simp [List.getD_eq_getElem?_getD, h2]
  let f : Nat → Int := fun i => l.getD i 0
  refine ⟨nK f l.length 26 0, nK f l.length 115 1, nK f l.length 268 2, nK f l.length 5238 3, nK f l.length 399 4, nK f l.length 967 5, nK f l.length 3 6, ?_, fun n => ?_⟩
  rotate_left
  · have := congrFun (congrFun s0_all (fun i => l.getD i 0)) n
    have := congrArg (fun (t : List (Option (Fl × Rho))) => t[l.length]?) this
    simp only [List.getElem?_map, List.getElem?_range (show l.length < 64 by omega), Option.map_some, Option.some.injEq, hl] at this
    exact this
  · intro x hx
    simp only [List.mem_cons, List.not_mem_nil, or_false] at hx
    rcases hx with rfl | rfl | rfl | rfl | rfl | rfl | rfl <;> exact fm (by omega)
end Mine.H
end
section
open PySem PySem.Calls PyProof.Rows PySem.W
set_option maxRecDepth 100000
set_option maxHeartbeats 4000000
namespace Mine.H
noncomputable def whB : Stmt → List Stmt
  | .While _ b _ _ => b
  | _ => []
noncomputable def whT : Stmt → Expr
  | .While t _ _ _ => t
  | _ => .Constant .none 0 default
theorem fn13 : fnT 13 = fnOf (pieceAt 13) := by kernel_rfl
noncomputable def F13 : { f : Fn // fnT 13 = f } := by
  have h : fnOf (pieceAt 13) = fnOf (pieceAt 13) := rfl
  conv at h =>
    rhs
    arg 1
    whnf
  dsimp only [fnOf] at h
  exact ⟨_, fn13.trans h⟩
noncomputable def c13 : Cx := fnCx (fnT 13)
theorem mu13 : c13.mu = [nm "units"] := by kernel_rfl
theorem ok13 : (["units", "behind", "unit"].all fun x => okK c13 (Str.ofString x)) = true := by kernel_rfl
theorem gl13 : isGl c13 (Str.ofString "int") = true ∧ isGl c13 (Str.ofString "len") = true := ⟨by kernel_rfl, by kernel_rfl⟩
section
variable {G : Prog} {n : Nat} {c : Cx} {ρ : Rho}
theorem bound_int {i : Int} (h : -1000000000 ≤ i ∧ i ≤ 1000000000) : boundV (some (.int i)) = some (some i) := by
  show (if smallI i = true then some (some i) else Option.none) = _
  rw [show smallI i = true by simp [smallI, h.1, h.2]]; rfl
theorem sub_str {l : List Nat} {i : Nat} {ch : Nat} (h : l[i]? = some ch) (hs : l.length ≤ 1000) : subV (.str l) (.int (i : Int)) = some (.str [ch]) := by
  have hi := (List.getElem?_eq_some_iff.mp h).1
  show (idxAt l.length (i : Int)).bind (fun k => (l[k]?).map fun c => V.str [c]) = _
  have : idxAt l.length (i : Int) = some i := by
    unfold idxAt
    have hs : smallI (i : Int) = true := by simp [smallI]; omega
    rw [hs, if_neg (by simp), if_pos (by omega), if_pos (by omega)]; rfl
  rw [this, Option.bind_some, h]; rfl
theorem cut_at {l : List Nat} {i m : Nat} (hs : l.length ≤ 1000) (hm : m ≤ 1000) (hi : i ≤ l.length) : sliceV (.str l) (some (.int (i : Int))) (some (.int ((i : Int) + (m : Int)))) Option.none = some (.str ((l.drop i).take m)) := by
  have h1 : boundV (some (.int (i : Int))) = some (some (i : Int)) := bound_int (by omega)
  have h2 : boundV (some (.int ((i : Int) + (m : Int)))) = some (some ((i : Int) + (m : Int))) := bound_int (by omega)
  unfold sliceV
  rw [h1, h2]
  show (if lenOk l.length = true then _ else _) = _
  rw [len_ok (by omega), if_pos rfl]
  congr 2
  unfold cutL
  simp only [Option.map_some, Option.getD_some, clampI]
  rw [if_neg (by omega), if_neg (by omega)]
  have e1 : ((i : Int)).toNat = i := by omega
  have e2 : ((i : Int) + (m : Int)).toNat = i + m := by omega
  rw [e1, e2, Nat.min_eq_left hi, List.drop_take]
  by_cases h : i + m ≤ l.length
  · rw [Nat.min_eq_left h]; congr 1; omega
  · rw [Nat.min_eq_right (by omega)]
    rw [List.take_of_length_le (by rw [List.length_drop]; omega), List.take_of_length_le (by rw [List.length_drop]; omega)]
end
theorem unit_turn (n : Nat) (T : List Nat) (j m : Nat) (ch : Nat) (hT : T.length ≤ 200) (hj : T[j]? = some ch) (ρ : Rho) (U : List V) (hU : U.length ≤ 500)
    (hρ : ρ = [(Str.ofString "behind", .val (.int (j : Int))), (Str.ofString "units", .own (.lst U)), (Str.ofString "text", .val (.str T))] ∨ ∃ u, ρ = [(Str.ofString "units", .own (.lst U)), (Str.ofString "behind", .val (.int (j : Int))), (Str.ofString "unit", .val u), (Str.ofString "text", .val (.str T))])
    (hm : (m = 1 ∧ ch ≠ 92) ∨ (m = 2 ∧ ch = 92)) :
    (lvl GP (n + 10)).X c13 ρ (whB (F13.val.body.getD 1 (.Pass default))) = some (.next, [(Str.ofString "units", .own (.lst (U ++ [.tup [.int ((j : Int) + (((T.drop j).take m).length : Int) - 1), .str ((T.drop j).take m)]]))), (Str.ofString "behind", .val (.int ((j : Int) + (((T.drop j).take m).length : Int)))), (Str.ofString "unit", .val (.str ((T.drop j).take m))), (Str.ofString "text", .val (.str T))]) := by
  have hok := ok13
  simp only [List.all_cons, List.all_nil, Bool.and_true, Bool.and_eq_true] at hok
  obtain ⟨j0, j1, j2⟩ := hok
  obtain ⟨g1, g2⟩ := gl13
  have hji := (List.getElem?_eq_some_iff.mp hj).1
  have e1 : subV (.str T) (.int (j : Int)) = some (.str [ch]) := sub_str hj (by omega)
  have e2 : biV (Str.ofString "int") [.bool (decide ([ch] = [92]))] = some (.int ((m : Int) - 1)) := by
    rcases hm with ⟨rfl, h⟩ | ⟨rfl, rfl⟩
    · rw [decide_eq_false (by simpa using h)]; rfl
    · rfl
  have e3 : (j : Int) + 1 + ((m : Int) - 1) = (j : Int) + (m : Int) := by omega
  have e4 := cut_at (l := T) (i := j) (m := m) (by omega) (by omega) (by omega)
  have e5 : biV (Str.ofString "len") [.str ((T.drop j).take m)] = some (.int (((T.drop j).take m).length : Int)) := bi_len (by rw [List.length_take]; omega)
  have m1 : (c13.mu.contains (Str.ofString "unit")) = false := by kernel_rfl
  have m2 : (c13.mu.contains (Str.ofString "behind")) = false := by kernel_rfl
  have ea : binV .Add (.int ((j : Int) + 1)) (.int ((m : Int) - 1)) = some (.int ((j : Int) + (m : Int))) := by rw [bin_add, e3]
  have eb : binV .Sub (.int ((j : Int) + (((T.drop j).take m).length : Int))) (.int 1) = some (.int ((j : Int) + (((T.drop j).take m).length : Int) - 1)) := rfl
  have er : ∀ ρ : Rho, find ρ (Str.ofString "behind") = some (.val (.int (j : Int))) → find ρ (Str.ofString "text") = some (.val (.str T)) → find ρ (Str.ofString "units") = some (.own (.lst U)) → find ρ (Str.ofString "int") = Option.none → find ρ (Str.ofString "len") = Option.none →
      (lvl GP (n + 10)).X c13 ρ (whB (F13.val.body.getD 1 (.Pass default))) = some (.next, upd (upd (upd ρ (Str.ofString "unit") (.val (.str ((T.drop j).take m)))) (Str.ofString "behind") (.val (.int ((j : Int) + (((T.drop j).take m).length : Int))))) (Str.ofString "units") (.own (.lst (U ++ [.tup [.int ((j : Int) + (((T.drop j).take m).length : Int) - 1), .str ((T.drop j).take m)]])))) := by
    intro ρ r1 r2 r3 r4 r5
    clear hρ hm hT hji hj e3
    show (lvl GP (n + 10)).X c13 ρ (whB (F13.val.body.getD 1 (.Pass default))) = _
    dsimp only [F13, List.getD, List.getElem?_cons_succ, List.getElem?_cons_zero, Option.getD, whB]
    apply y_start
    apply y_cons
    · walk_at "ev"
    apply y_cons
    · walk_at "ev"
    apply y_cons
    · walk_at "ev"
    exact y_nil
  rcases hρ with rfl | ⟨u, rfl⟩
  · rw [er _ (by walk_at "ev") (by walk_at "ev") (by walk_at "ev") (by walk_at "ev") (by walk_at "ev")]
    kernel_rfl
  · rw [er _ (by walk_at "ev") (by walk_at "ev") (by walk_at "ev") (by walk_at "ev") (by walk_at "ev")]
    kernel_rfl
end Mine.H
end
section
open PySem PySem.Calls PyProof.Rows PySem.W
set_option maxRecDepth 100000
set_option maxHeartbeats 4000000
namespace Mine.H
noncomputable def uRho (T : List Nat) (j : Nat) (U : List V) (ρ : Rho) : Prop := ρ = [(Str.ofString "behind", .val (.int (j : Int))), (Str.ofString "units", .own (.lst U)), (Str.ofString "text", .val (.str T))] ∨ ∃ u, ρ = [(Str.ofString "units", .own (.lst U)), (Str.ofString "behind", .val (.int (j : Int))), (Str.ofString "unit", .val u), (Str.ofString "text", .val (.str T))]
theorem unit_test (n : Nat) (T : List Nat) (j : Nat) (hT : T.length ≤ 200) {ρ : Rho} {U : List V} (h : uRho T j U ρ) : (lvl GP (n + 10)).E c13 ρ (whT (F13.val.body.getD 1 (.Pass default))) = some (false, .bool (decide ((j : Int) < (T.length : Int)))) := by
  obtain ⟨g1, g2⟩ := gl13
  have e5 : biV (Str.ofString "len") [.str T] = some (.int (T.length : Int)) := bi_len (by omega)
  have e6 : cmpV .Lt (.int (j : Int)) (.int (T.length : Int)) = some (decide ((j : Int) < (T.length : Int))) := rfl
  dsimp only [F13, List.getD, List.getElem?_cons_succ, List.getElem?_cons_zero, Option.getD, whT]
  rcases h with rfl | ⟨u, rfl⟩ <;> walk_at "ev"
section
variable {r : Evs} {c : Cx} {ρ ρ₁ : Rho} {test : Expr} {body : List Stmt} {t : Bool} {fuel : Nat} {q : Fl × Rho}
theorem w_yes (h1 : r.E c ρ test = some (t, .bool true)) (h2 : r.X c ρ body = some (.next, ρ₁)) (h3 : whileX r c test body fuel ρ₁ = some q) : whileX r c test body (fuel + 1) ρ = some q := by
  show ((r.E c ρ test).bind fun p => boolO p.2).bind _ = _
  rw [h1]
  show (r.X c ρ body).bind _ = _
  rw [h2]; exact h3
theorem w_no (h1 : r.E c ρ test = some (t, .bool false)) : whileX r c test body (fuel + 1) ρ = some (.next, ρ) := by
  show ((r.E c ρ test).bind fun p => boolO p.2).bind _ = _
  rw [h1]; rfl
end
theorem unit_loop (n : Nat) (T : List Nat) (hT : T.length ≤ 200) : ∀ (fuel j : Nat) (U : List V) (ρ : Rho), j ≤ T.length → T.length - j < fuel → U.length ≤ j → uRho T j U ρ →
    ∃ ρ', whileX (lvl GP (n + 10)) c13 (whT (F13.val.body.getD 1 (.Pass default))) (whB (F13.val.body.getD 1 (.Pass default))) fuel ρ = some (.next, ρ') ∧ ∃ k, uRho T k (U ++ escItems j false (T.drop j)) ρ'
  | 0, j, U, ρ, _, h, _, _ => by omega
  | fuel + 1, j, U, ρ, hj, hf, hU, hr => by
    have ht := unit_test n T j hT hr
    by_cases hlt : j < T.length
    · rw [decide_eq_true (by omega : (j : Int) < (T.length : Int))] at ht
      obtain ⟨ch, hch⟩ : ∃ ch, T[j]? = some ch := ⟨_, List.getElem?_eq_getElem hlt⟩
      have hd : T.drop j = ch :: T.drop (j + 1) := by
        rw [List.drop_eq_getElem_cons hlt]
        congr 1
        rw [List.getElem?_eq_getElem hlt] at hch
        exact Option.some.inj hch
      have go : ∀ m, ((m = 1 ∧ ch ≠ 92) ∨ (m = 2 ∧ ch = 92)) → U ++ V.tup [.int ((j : Int) + (((T.drop j).take m).length : Int) - 1), .str ((T.drop j).take m)] :: escItems (j + ((T.drop j).take m).length) false (T.drop (j + ((T.drop j).take m).length)) = U ++ escItems j false (T.drop j) →
          ∃ ρ', whileX (lvl GP (n + 10)) c13 (whT (F13.val.body.getD 1 (.Pass default))) (whB (F13.val.body.getD 1 (.Pass default))) (fuel + 1) ρ = some (.next, ρ') ∧ ∃ k, uRho T k (U ++ escItems j false (T.drop j)) ρ' := by
        intro m hm he
        have hlen : ((T.drop j).take m).length ≤ T.length - j ∧ 1 ≤ ((T.drop j).take m).length := by
          rw [List.length_take, List.length_drop]; omega
        obtain ⟨ρ', h1, k, h2⟩ := unit_loop n T hT fuel (j + ((T.drop j).take m).length) (U ++ [V.tup [.int ((j : Int) + (((T.drop j).take m).length : Int) - 1), .str ((T.drop j).take m)]]) _ (by omega) (by omega) (by rw [List.length_append, List.length_singleton]; omega) (.inr ⟨.str ((T.drop j).take m), rfl⟩)
        rw [Int.natCast_add] at h1
        rw [List.append_assoc] at h2
        exact ⟨ρ', w_yes ht (unit_turn n T j m ch hT hch ρ U (by omega) hr hm) h1, k, he ▸ h2⟩
      by_cases h92 : ch = 92
      · subst h92
        refine go 2 (.inr ⟨rfl, rfl⟩) ?_
        congr 1
        rw [hd]
        cases hr2 : T.drop (j + 1) with
        | nil =>
          have : j + 1 = T.length := by have := List.drop_eq_nil_iff.mp hr2; omega
          simp [escItems, this]
          omega
        | cons c' r =>
          have h2 : T.drop (j + 2) = r := by
            have := congrArg (List.drop 1) hr2
            simpa using this
          simp [escItems, h2]
          omega
      · refine go 1 (.inl ⟨rfl, h92⟩) ?_
        congr 1
        rw [hd]
        simp [escItems, h92]
    · rw [decide_eq_false (by omega)] at ht
      have hj' : j = T.length := by omega
      subst hj'
      exact ⟨ρ, w_no ht, T.length, by simpa [escItems] using hr⟩
theorem units_F (n : Nat) (T : List Nat) (hT : T.length ≤ 200) : (lvl GP (n + 12)).F (nm "_law_units") [.str T] = some (.lst (escItems 0 false T)) := by
  have hok := ok13
  simp only [List.all_cons, List.all_nil, Bool.and_true, Bool.and_eq_true] at hok
  obtain ⟨j0, j1, j2⟩ := hok
  have m1 : (c13.mu.contains (Str.ofString "units")) = true := by kernel_rfl
  have m2 : (c13.mu.contains (Str.ofString "behind")) = false := by kernel_rfl
  obtain ⟨ρ', h1, k, h2⟩ := unit_loop n T hT 4000 0 [] [(Str.ofString "behind", .val (.int ((0 : Nat) : Int))), (Str.ofString "units", .own (.lst [])), (Str.ofString "text", .val (.str T))] (by omega) (by omega) (by simp) (.inl rfl)
  rw [List.drop_zero, List.nil_append] at h2
  have hu : find ρ' (Str.ofString "units") = some (.own (.lst (escItems 0 false T))) := by rcases h2 with rfl | ⟨u, rfl⟩ <;> walk_at "ev"
  have hx : (lvl GP (n + 11)).X c13 [(nm "text", .val (.str T))] F13.val.body = some (.ret (.lst (escItems 0 false T)), ρ') := by
    show (lvl GP (n + 11)).X c13 [(Str.ofString "text", .val (.str T))] F13.val.body = some (.ret (.lst (escItems 0 false T)), ρ')
    dsimp only [F13, List.getD, List.getElem?_cons_succ, List.getElem?_cons_zero, Option.getD, whB, whT] at h1 ⊢
    apply y_start
    apply y_cons
    · walk_at "ev"
    apply y_cons
    · exact h1
    apply execL_ret
    walk_at "ev"
  have h := hx
  rw [← F13.2] at h
  exact F_of (g := fnT 13) (by kernel_rfl) (by kernel_rfl) (by kernel_rfl) h
end Mine.H
end
section
open PySem PySem.Calls PyProof.Rows PySem.W
set_option maxRecDepth 100000
set_option maxHeartbeats 4000000
namespace Mine.H
theorem fn3 : fnT 3 = fnOf (pieceAt 3) := by kernel_rfl
noncomputable def F3 : { f : Fn // fnT 3 = f } := by
  have h : fnOf (pieceAt 3) = fnOf (pieceAt 3) := rfl
  conv at h =>
    rhs
    arg 1
    whnf
  dsimp only [fnOf] at h
  exact ⟨_, fn3.trans h⟩
noncomputable def c3 : Cx := fnCx (fnT 3)
theorem ok3 : (["start", "open_pos", "result", "pos", "ch"].all fun x => okK c3 (Str.ofString x)) = true := by kernel_rfl
theorem okn3 : (["start", "open_pos", "pos", "ch"].all fun x => okN c3 (Str.ofString x)) = true := by kernel_rfl
theorem mu3 : c3.mu.contains (Str.ofString "result") = true ∧ c3.mu.contains (Str.ofString "start") = false ∧ c3.mu.contains (Str.ofString "open_pos") = false := ⟨by kernel_rfl, by kernel_rfl, by kernel_rfl⟩
theorem gl3 : isGl c3 (Str.ofString "len") = true ∧ isGl c3 (Str.ofString "_iter_escaped_chars") = true := ⟨by kernel_rfl, by kernel_rfl⟩
noncomputable def forB : Stmt → List Stmt
  | .For _ _ b _ _ => b
  | _ => []
noncomputable def forT : Stmt → Expr
  | .For t _ _ _ _ => t
  | _ => .Constant .none 0 default
theorem find_upd {ρ : Rho} {x y : Str} {b : Bd} : find (upd ρ x b) y = if (y == x) = true then some b else find ρ y := by
  by_cases h : y = x
  · subst h; rw [find_self, if_pos (by simp)]
  · rw [find_other h, if_neg (by simpa using h)]
section
variable {G : Prog} {n : Nat} {c : Cx} {ρ : Rho}
theorem execL_one {r : Evs} {st : Stmt} {fl : Fl} {ρ' : Rho} (h : execS r c ρ st = some (fl, ρ')) : execL r c ρ [st] = some (fl, ρ') := by
  show ((execS r c ρ st).bind _) = _
  rw [h]
  cases fl <;> rfl
theorem cut_ab {l : List Nat} {a q : Nat} (hs : l.length ≤ 1000) (ha : a ≤ l.length) (hq : q ≤ l.length) : sliceV (.str l) (some (.int (a : Int))) (some (.int (q : Int))) Option.none = some (.str ((l.take q).drop a)) := by
  have h1 : boundV (some (.int (a : Int))) = some (some (a : Int)) := bound_int (by omega)
  have h2 : boundV (some (.int (q : Int))) = some (some (q : Int)) := bound_int (by omega)
  unfold sliceV
  rw [h1, h2]
  show (if lenOk l.length = true then _ else _) = _
  rw [len_ok (by omega), if_pos rfl]
  congr 2
  unfold cutL
  simp only [Option.map_some, Option.getD_some, clampI]
  rw [if_neg (by omega), if_neg (by omega)]
  simp only [Int.toNat_natCast]
  rw [Nat.min_eq_left ha, Nat.min_eq_left hq]
theorem cut_from {l : List Nat} {a : Nat} (hs : l.length ≤ 1000) (ha : a ≤ l.length) : sliceV (.str l) (some (.int (a : Int))) Option.none Option.none = some (.str (l.drop a)) := by
  have h1 : boundV (some (.int (a : Int))) = some (some (a : Int)) := bound_int (by omega)
  unfold sliceV
  rw [h1]
  show (if lenOk l.length = true then _ else _) = _
  rw [len_ok (by omega), if_pos rfl]
  congr 2
  unfold cutL
  simp only [Option.map_some, Option.getD_some, Option.map_none, Option.getD_none, clampI]
  rw [if_neg (by omega), Int.toNat_natCast, Nat.min_eq_left ha, List.take_length]
theorem strs_map : ∀ l : List (List Nat), strsV (l.map V.str) = some l
  | [] => rfl
  | x :: l => by simp [strsV, strs_map l]
theorem join_flat : ∀ l : List (List Nat), joinL [] l = l.flatten
  | [] => rfl
  | [x] => by simp [joinL]
  | x :: y :: l => by
    have := join_flat (y :: l)
    simp only [joinL, List.nil_append, List.flatten_cons] at this ⊢
    rw [this]
theorem meth_join {l : List (List Nat)} (h : l.flatten.length ≤ 90000) : methS [] (Str.ofString "join") [.lst (l.map V.str)] = some (.str l.flatten) := by
  show ((strsV (l.map V.str)).bind fun xs => if lenOk ((xs.map (·.length)).sum + xs.length * ([] : List Nat).length) then some (V.str (joinL [] xs)) else Option.none) = _
  have hl : (l.map (·.length)).sum + l.length * ([] : List Nat).length ≤ 100000 := by
    rw [List.length_nil, Nat.mul_zero, Nat.add_zero, ← List.length_flatten]; omega
  rw [strs_map, Option.bind_some, len_ok hl, if_pos rfl, join_flat]
end
noncomputable def stepS (T : List Nat) (s : Nat × Option Nat × List (List Nat)) (p : Nat) (u : List Nat) : Nat × Option Nat × List (List Nat) :=
  if u = [34] then match s.2.1 with
    | none => (s.1, some p, s.2.2)
    | some q => (p + 1, none, if s.1 = q then s.2.2 else s.2.2 ++ [(T.take q).drop s.1])
  else s
noncomputable def opV : Option Nat → V
  | none => .none
  | some q => .int (q : Int)
structure SR (T : List Nat) (s : Nat × Option Nat × List (List Nat)) (ρ : Rho) : Prop where
  addr : find ρ (Str.ofString "addr") = some (.val (.str T))
  start : find ρ (Str.ofString "start") = some (.val (.int (s.1 : Int)))
  op : find ρ (Str.ofString "open_pos") = some (.val (opV s.2.1))
  res : find ρ (Str.ofString "result") = some (.own (.lst (s.2.2.map V.str)))
  bare : find ρ (Str.ofString "len") = Option.none ∧ find ρ (Str.ofString "_iter_escaped_chars") = Option.none
theorem strip_turn (n : Nat) (T : List Nat) (hT : T.length ≤ 200) (s : Nat × Option Nat × List (List Nat)) (p : Nat) (u : List Nat) (hp : p < T.length) (ha : s.1 ≤ T.length) (hq : ∀ q, s.2.1 = some q → q ≤ T.length) (hR : s.2.2.length ≤ 500) {ρ : Rho} (h : SR T s ρ) :
    ∃ ρ₁ ρ', bindT c3 ρ (forT (F3.val.body.getD 4 (.Pass default))) (.tup [.int (p : Int), .str u]) = some ρ₁ ∧ (lvl GP (n + 12)).X c3 ρ₁ (forB (F3.val.body.getD 4 (.Pass default))) = some (.next, ρ') ∧ SR T (stepS T s p u) ρ' := by
  obtain ⟨a, o, R⟩ := s
  obtain ⟨h1, h2, h3, h4, h5, h6⟩ := h
  dsimp only at h2 h3 h4 ha hq hR
  have hok := ok3
  have hokn := okn3
  simp only [List.all_cons, List.all_nil, Bool.and_true, Bool.and_eq_true] at hok hokn
  obtain ⟨j0, j1, j2, j3, j4⟩ := hok
  obtain ⟨k0, k1, k3, k4⟩ := hokn
  obtain ⟨m0, m1, m2⟩ := mu3
  have hb : bindT c3 ρ (forT (F3.val.body.getD 4 (.Pass default))) (.tup [.int (p : Int), .str u]) = some (upd (upd ρ (Str.ofString "pos") (.val (.int (p : Int)))) (Str.ofString "ch") (.val (.str u))) := by
    dsimp only [F3, List.getD, List.getElem?_cons_succ, List.getElem?_cons_zero, Option.getD, forT]
    exact b_tup2 k3 k4
  have n0 : cmpV .Is .none .none = some true := rfl
  have n1 : ∀ q : Nat, cmpV .Is (.int (q : Int)) .none = some false := fun _ => rfl
  have n2 : binV .Add (.int (p : Int)) (.int 1) = some (.int ((p + 1 : Nat) : Int)) := rfl
  refine ⟨upd (upd ρ (Str.ofString "pos") (.val (.int (p : Int)))) (Str.ofString "ch") (.val (.str u)), ?_⟩
  by_cases hu : u = [34]
  · subst hu
    have c1 : cmpV .Eq (.str [34]) (.str [34]) = some true := rfl
    cases o with
    | none =>
      have h3 : find ρ (Str.ofString "open_pos") = some (.val .none) := h3
      refine ⟨upd (upd (upd ρ (Str.ofString "pos") (.val (.int (p : Int)))) (Str.ofString "ch") (.val (.str [34]))) (Str.ofString "open_pos") (.val (.int (p : Int))), hb, ?_, ?_⟩
      · clear hb
        dsimp only [F3, List.getD, List.getElem?_cons_succ, List.getElem?_cons_zero, Option.getD, forB]
        apply x_one
        apply s_ift
        · walk_at "ev"
        apply x_one
        apply s_ift
        · walk_at "ev"
        apply x_one
        walk_at "ev"
      · show SR T (a, some p, R) _
        clear hb
        refine ⟨?_, ?_, ?_, ?_, ?_, ?_⟩ <;> (try dsimp only [opV]) <;> walk_at "ev"
    | some q =>
      have h3 : find ρ (Str.ofString "open_pos") = some (.val (.int (q : Int))) := h3
      have n1 := n1 q
      have hq' := hq q rfl
      have ecut := cut_ab (l := T) (a := a) (q := q) (by omega) ha hq'
      by_cases haq : a = q
      · subst haq
        have n3 : cmpV .NotEq (.int (a : Int)) (.int (a : Int)) = some false := by
          show some (!decide ((a : Int) = a)) = _
          rw [decide_eq_true rfl]; rfl
        refine ⟨upd (upd (upd (upd ρ (Str.ofString "pos") (.val (.int (p : Int)))) (Str.ofString "ch") (.val (.str [34]))) (Str.ofString "start") (.val (.int ((p + 1 : Nat) : Int)))) (Str.ofString "open_pos") (.val .none), hb, ?_, ?_⟩
        · clear hb
          dsimp only [F3, List.getD, List.getElem?_cons_succ, List.getElem?_cons_zero, Option.getD, forB]
          apply x_one
          apply s_ift
          · walk_at "ev"
          apply x_one
          apply s_iff
          · walk_at "ev"
          apply y_start
          apply y_cons
          · apply s_iff
            · walk_at "ev"
            exact x_nil
          apply y_cons
          · walk_at "ev"
          apply y_cons
          · walk_at "ev"
          exact y_nil
        · have hs : stepS T (a, some a, R) p [34] = (p + 1, none, R) := by
            show (p + 1, none, if a = a then R else _) = _
            rw [if_pos rfl]
          rw [hs]
          clear hb
          refine ⟨?_, ?_, ?_, ?_, ?_, ?_⟩ <;> (try dsimp only [opV]) <;> walk_at "ev"
      · have n3 : cmpV .NotEq (.int (a : Int)) (.int (q : Int)) = some true := by
          show some (!decide ((a : Int) = q)) = _
          rw [decide_eq_false (by omega)]; rfl
        have hl : (R.map V.str).length ≤ 1000 := by rw [List.length_map]; omega
        refine ⟨upd (upd (upd (upd (upd ρ (Str.ofString "pos") (.val (.int (p : Int)))) (Str.ofString "ch") (.val (.str [34]))) (Str.ofString "result") (.own (.lst (R.map V.str ++ [.str ((T.take q).drop a)])))) (Str.ofString "start") (.val (.int ((p + 1 : Nat) : Int)))) (Str.ofString "open_pos") (.val .none), hb, ?_, ?_⟩
        · clear hb
          dsimp only [F3, List.getD, List.getElem?_cons_succ, List.getElem?_cons_zero, Option.getD, forB]
          apply x_one
          apply s_ift
          · walk_at "ev"
          apply x_one
          apply s_iff
          · walk_at "ev"
          apply y_start
          apply y_cons
          · apply s_ift
            · walk_at "ev"
            apply x_one
            walk_at "ev"
          apply y_cons
          · walk_at "ev"
          apply y_cons
          · walk_at "ev"
          exact y_nil
        · have hs : stepS T (a, some q, R) p [34] = (p + 1, none, R ++ [(T.take q).drop a]) := by
            show (p + 1, none, if a = q then R else _) = _
            rw [if_neg haq]
          rw [hs]
          clear hb
          have hR' : find ρ (Str.ofString "result") = some (.own (.lst (R.map V.str))) := h4
          refine ⟨?_, ?_, ?_, ?_, ?_, ?_⟩
          · walk_at "ev"
          · dsimp only; walk_at "ev"
          · dsimp only [opV]; walk_at "ev"
          · show find _ _ = some (.own (.lst ((R ++ [(T.take q).drop a]).map V.str)))
            rw [List.map_append]
            show find _ _ = some (.own (.lst (R.map V.str ++ [.str ((T.take q).drop a)])))
            walk_at "ev"
          · walk_at "ev"
          · walk_at "ev"
  · have c1 : cmpV .Eq (.str u) (.str [34]) = some false := by rw [cmp_eqs, decide_eq_false hu]
    refine ⟨upd (upd ρ (Str.ofString "pos") (.val (.int (p : Int)))) (Str.ofString "ch") (.val (.str u)), hb, ?_, ?_⟩
    · clear hb
      dsimp only [F3, List.getD, List.getElem?_cons_succ, List.getElem?_cons_zero, Option.getD, forB]
      apply x_one
      apply s_iff
      · walk_at "ev"
      exact x_nil
    · have hs : stepS T (a, o, R) p u = (a, o, R) := by
        unfold stepS
        rw [if_neg hu]
      rw [hs]
      clear hb
      refine ⟨?_, ?_, ?_, ?_, ?_, ?_⟩ <;> (try dsimp only) <;> walk_at "ev"
end Mine.H
end
section
open PySem PySem.Calls PyProof.Rows PySem.W
set_option maxRecDepth 100000
set_option maxHeartbeats 4000000
namespace Mine.H
noncomputable def itL : Nat → Bool → List Nat → List (Nat × List Nat)
  | p, true, [] => [(p - 1, [92])]
  | _, false, [] => []
  | p, true, c :: r => (p, [92, c]) :: itL (p + 1) false r
  | p, false, c :: r => if c = 92 then itL (p + 1) true r else (p, [c]) :: itL (p + 1) false r
noncomputable def itW (x : Nat × List Nat) : V := .tup [.int (x.1 : Int), .str x.2]
theorem esc_it : ∀ (l : List Nat) (p : Nat) (b : Bool), (b = true → 0 < p) → escItems p b l = (itL p b l).map itW
  | [], p, true, h => by
    have := h rfl
    simp only [escItems, itL, List.map_cons, List.map_nil, itW]
    congr 3
    congr 1
    omega
  | [], p, false, _ => rfl
  | c :: r, p, true, _ => by simp only [escItems, itL, List.map_cons, itW, esc_it r (p + 1) false (by simp)]
  | c :: r, p, false, _ => by
    simp only [escItems, itL]
    split
    · exact esc_it r (p + 1) true (by omega)
    · simp only [List.map_cons, itW, esc_it r (p + 1) false (by simp)]
theorem it_lt : ∀ (l : List Nat) (p : Nat) (b : Bool), (b = true → 0 < p) → ∀ x ∈ itL p b l, x.1 < p + l.length
  | [], p, true, h, x, hx => by
    have := h rfl
    simp [itL] at hx; subst hx; simp; omega
  | [], p, false, _, x, hx => by simp [itL] at hx
  | c :: r, p, true, _, x, hx => by
    simp only [itL, List.mem_cons] at hx
    rcases hx with rfl | hx
    · simp
    · have := it_lt r (p + 1) false (by simp) x hx; simp; omega
  | c :: r, p, false, _, x, hx => by
    simp only [itL] at hx
    split at hx
    · have := it_lt r (p + 1) true (by omega) x hx; simp; omega
    · simp only [List.mem_cons] at hx
      rcases hx with rfl | hx
      · simp
      · have := it_lt r (p + 1) false (by simp) x hx; simp; omega
theorem it_len : ∀ (l : List Nat) (p : Nat) (b : Bool), (itL p b l).length ≤ l.length + 1
  | [], p, true => by simp [itL]
  | [], p, false => by simp [itL]
  | c :: r, p, true => by have := it_len r (p + 1) false; simp only [itL, List.length_cons]; omega
  | c :: r, p, false => by
    simp only [itL]
    split
    · have := it_len r (p + 1) true; simp only [List.length_cons]; omega
    · have := it_len r (p + 1) false; simp only [List.length_cons]; omega
section
variable {G : Prog} {n : Nat} {c : Cx} {ρ : Rho}
theorem itE_esc {target a : Expr} {p q : Pos} {t : Bool} {s : List Nat} (h0 : find ρ (Str.ofString "_iter_escaped_chars") = Option.none) (h1 : isGl c (Str.ofString "_iter_escaped_chars") = true) (hs : isStar a = false) (ha : (lvl G n).E c ρ a = some (t, .str s)) (hl : s.length ≤ 100000) :
    itE (lvl G n) c ρ target (.Call (.Name (Str.ofString "_iter_escaped_chars") p) [a] [] q) = some (escItems 0 false s) := by
  show (if (isGl c (Str.ofString "_iter_escaped_chars") && (find ρ (Str.ofString "_iter_escaped_chars")).isNone) = true then (if isStar a then Option.none else ((lvl G n).E c ρ a).bind fun p => (strO p.2).bind fun s => if lenOk s.length then some (escItems 0 false s) else Option.none) else Option.none) = _
  rw [h0, h1, hs, ha]
  show (if lenOk s.length = true then _ else _) = _
  rw [len_ok hl, if_pos rfl]
end
noncomputable def stripS (T : List Nat) (s : Nat × Option Nat × List (List Nat)) (l : List (Nat × List Nat)) : Nat × Option Nat × List (List Nat) := l.foldl (fun s x => stepS T s x.1 x.2) s
structure SI (T : List Nat) (s : Nat × Option Nat × List (List Nat)) (k : Nat) : Prop where
  a : s.1 ≤ T.length
  q : ∀ q, s.2.1 = some q → q ≤ T.length
  R : s.2.2.length + k ≤ 300
  P : ∀ x ∈ s.2.2, x.length ≤ 200
theorem SI.step {T : List Nat} {s : Nat × Option Nat × List (List Nat)} {k p : Nat} {u : List Nat} (hT : T.length ≤ 200) (h : SI T s (k + 1)) (hp : p < T.length) : SI T (stepS T s p u) k := by
  obtain ⟨a, o, R⟩ := s
  obtain ⟨h1, h2, h3, h4⟩ := h
  dsimp only at h1 h2 h3 h4
  unfold stepS
  split
  · cases o with
    | none => exact ⟨h1, fun q e => (by cases e; omega), (by dsimp only; omega), h4⟩
    | some q =>
      dsimp only
      refine ⟨by omega, fun _ e => (by cases e), ?_, ?_⟩
      · dsimp only; split
        · omega
        · rw [List.length_append, List.length_singleton]; omega
      · intro x hx
        dsimp only at hx
        split at hx
        · exact h4 x hx
        · rcases List.mem_append.mp hx with hx | hx
          · exact h4 x hx
          · rw [List.mem_singleton.mp hx, List.length_drop, List.length_take]; omega
  · exact ⟨h1, h2, by dsimp only; omega, h4⟩
theorem strip_loop (n : Nat) (T : List Nat) (hT : T.length ≤ 200) : ∀ (l : List (Nat × List Nat)) (s : Nat × Option Nat × List (List Nat)) (ρ : Rho), (∀ x ∈ l, x.1 < T.length) → SI T s l.length → SR T s ρ →
    ∃ ρ', forX (lvl GP (n + 12)) c3 (forT (F3.val.body.getD 4 (.Pass default))) (forB (F3.val.body.getD 4 (.Pass default))) (l.map itW) ρ = some (.next, ρ') ∧ SR T (stripS T s l) ρ' ∧ SI T (stripS T s l) 0
  | [], s, ρ, _, hi, h => ⟨ρ, rfl, h, hi⟩
  | x :: l, s, ρ, hp, hi, h => by
    have hx := hp x List.mem_cons_self
    obtain ⟨ρ₁, ρ', b1, b2, b3⟩ := strip_turn n T hT s x.1 x.2 hx hi.a hi.q (by have := hi.R; omega) h
    obtain ⟨ρ₂, g1, g2, g3⟩ := strip_loop n T hT l (stepS T s x.1 x.2) ρ' (fun y hy => hp y (List.mem_cons_of_mem _ hy)) (hi.step hT hx) b3
    refine ⟨ρ₂, ?_, g2, g3⟩
    show ((bindT c3 ρ _ (.tup [.int (x.1 : Int), .str x.2])).bind fun ρ₁ => ((lvl GP (n + 12)).X c3 ρ₁ _).bind _) = _
    rw [b1, Option.bind_some, b2]
    exact g1
noncomputable def stripF (T : List Nat) : List Nat := if 34 ∈ T then
    let s := stripS T (0, none, []) (itL 0 false T)
    (s.2.2 ++ if s.1 < T.length then [T.drop s.1] else []).flatten
  else T
theorem strip_F (n : Nat) (T : List Nat) (hT : T.length ≤ 200) : (lvl GP (n + 14)).F (nm "_strip_quoted_realnames") [.str T] = some (.str (stripF T)) := by
  have hok := ok3
  have hokn := okn3
  simp only [List.all_cons, List.all_nil, Bool.and_true, Bool.and_eq_true] at hok hokn
  obtain ⟨j0, j1, j2, j3, j4⟩ := hok
  obtain ⟨m0, m1, m2⟩ := mu3
  obtain ⟨g1, g2⟩ := gl3
  have F : ∀ ρ' v, (lvl GP (n + 13)).X c3 [(nm "addr", .val (.str T))] F3.val.body = some (.ret v, ρ') → (lvl GP (n + 14)).F (nm "_strip_quoted_realnames") [.str T] = some v := by
    intro ρ' v h
    rw [← F3.2] at h
    exact F_of (g := fnT 3) (by kernel_rfl) (by kernel_rfl) (by kernel_rfl) h
  have e0 : cmpV .NotIn (.str [34]) (.str T) = some (!decide (34 ∈ T)) := rfl
  by_cases hq : 34 ∈ T
  · let ρ0 : Rho := upd (upd (upd [(Str.ofString "addr", .val (.str T))] (Str.ofString "start") (.val (.int 0))) (Str.ofString "open_pos") (.val .none)) (Str.ofString "result") (.own (.lst []))
    have h0 : SR T (0, none, []) ρ0 := by
      refine ⟨?_, ?_, ?_, ?_, ?_, ?_⟩ <;> dsimp only [opV, List.map_nil, ρ0]
      · walk_at "ev"
      · show find _ _ = some (.val (.int 0))
        walk_at "ev"
      · walk_at "ev"
      · show find _ _ = some (.own (.lst []))
        walk_at "ev"
      all_goals walk_at "ev"
    have hi0 : SI T (0, none, []) (itL 0 false T).length := ⟨Nat.zero_le _, fun q e => (by cases e), (by have := it_len T 0 false; dsimp only; simp; omega), fun x hx => (by cases hx)⟩
    obtain ⟨ρ₁, l1, l2, l3⟩ := strip_loop n T hT (itL 0 false T) (0, none, []) ρ0 (fun x hx => by have := it_lt T 0 false (by simp) x hx; omega) hi0 h0
    rw [← esc_it T 0 false (by simp)] at l1
    generalize hs : stripS T (0, none, []) (itL 0 false T) = s at l2 l3
    obtain ⟨a, o, R⟩ := s
    obtain ⟨r1, r2, r3, r4, r5, r6⟩ := l2
    obtain ⟨i1, i2, i3, i4⟩ := l3
    dsimp only at r2 r3 r4 i1 i2 i3 i4
    have hfl : ∀ (Q : List (List Nat)), (∀ x ∈ Q, x.length ≤ 200) → Q.flatten.length ≤ 200 * Q.length := by
      intro Q
      induction Q with
      | nil => simp
      | cons x Q ih =>
        intro h
        have a := h x List.mem_cons_self
        have b := ih fun y hy => h y (List.mem_cons_of_mem _ hy)
        simp only [List.flatten_cons, List.length_append, List.length_cons]
        omega
    have e1 : biV (Str.ofString "len") [.str T] = some (.int (T.length : Int)) := bi_len (by omega)
    have e2 : cmpV .Lt (.int (a : Int)) (.int (T.length : Int)) = some (decide ((a : Int) < (T.length : Int))) := rfl
    have e3 := cut_from (l := T) (a := a) (by omega) i1
    have hres : stripF T = (R ++ if a < T.length then [T.drop a] else []).flatten := by
      unfold stripF
      rw [if_pos hq, hs]
    have hbound : ((R ++ if a < T.length then [T.drop a] else []).flatten).length ≤ 90000 := by
      refine Nat.le_trans (hfl _ fun x hx => ?_) ?_
      · rcases List.mem_append.mp hx with hx | hx
        · exact i4 x hx
        · split at hx
          · rw [List.mem_singleton.mp hx, List.length_drop]; omega
          · cases hx
      · rw [List.length_append]
        split <;> simp <;> omega
    have e4 := meth_join hbound
    rw [hres]
    have key : ∃ ρ₂, execS (lvl GP (n + 12)) c3 ρ₁ (F3.val.body.getD 5 (.Pass default)) = some (.next, ρ₂) ∧ find ρ₂ (Str.ofString "result") = some (.own (.lst ((R ++ if a < T.length then [T.drop a] else []).map V.str))) := by
      dsimp only [F3, List.getD, List.getElem?_cons_succ, List.getElem?_cons_zero, Option.getD]
      have hl : (R.map V.str).length ≤ 1000 := by rw [List.length_map]; omega
      by_cases hlt : a < T.length
      · rw [decide_eq_true (by omega : (a : Int) < (T.length : Int))] at e2
        refine ⟨upd ρ₁ (Str.ofString "result") (.own (.lst (R.map V.str ++ [.str (T.drop a)]))), ?_, ?_⟩
        · clear l1 h0 hi0 i2 i4 hfl e4 hres hbound
          apply s_ift
          · walk_at "ev"
          apply x_one
          walk_at "ev"
        · rw [if_pos hlt, List.map_append]
          exact fu_hit
      · rw [decide_eq_false (by omega : ¬ (a : Int) < (T.length : Int))] at e2
        refine ⟨ρ₁, ?_, ?_⟩
        · clear l1 h0 hi0 i2 i4 hfl e4 hres hbound
          apply s_iff
          · walk_at "ev"
          exact x_nil
        · rw [if_neg hlt, List.append_nil, r4]
    obtain ⟨ρ₂, k1, k2⟩ := key
    apply F ρ₂
    clear F hfl hbound hres hs
    show (lvl GP (n + 13)).X c3 [(Str.ofString "addr", .val (.str T))] F3.val.body = _
    dsimp only [F3, List.getD, List.getElem?_cons_succ, List.getElem?_cons_zero, Option.getD, forT, forB] at l1 k1 ⊢
    rw [decide_eq_true hq] at e0
    have e0 : cmpV .NotIn (.str [34]) (.str T) = some false := e0
    apply y_start
    apply y_cons
    · apply s_iff
      · walk_at "ev"
      exact x_nil
    apply y_cons
    · walk_at "ev"
    apply y_cons
    · walk_at "ev"
    apply y_cons
    · walk_at "ev"
    apply y_cons
    · show (itE (lvl GP (n + 12)) c3 ρ0 _ _).bind _ = _
      rw [itE_esc (t := false) (s := T) h0.bare.2 g2 rfl (v_n h0.addr) (by omega)]
      exact l1
    apply y_cons
    · exact k1
    apply execL_ret
    apply s_ret
    apply v_met (l := []) (vs := [.lst ((R ++ if a < T.length then [T.drop a] else []).map V.str)]) rfl rfl
    · walk_at "ev"
    · apply l_own rfl (v_o k2)
    · exact e4
  · have hres : stripF T = T := by unfold stripF; rw [if_neg hq]
    rw [hres]
    apply F [(Str.ofString "addr", .val (.str T))]
    rw [decide_eq_false hq] at e0
    have e0 : cmpV .NotIn (.str [34]) (.str T) = some true := e0
    show (lvl GP (n + 13)).X c3 [(Str.ofString "addr", .val (.str T))] F3.val.body = _
    dsimp only [F3]
    apply y_start
    apply execL_ret
    apply s_ift
    · walk_at "ev"
    apply x_one
    walk_at "ev"
end Mine.H
end
section
open PySem PySem.Calls PyProof.Rows PySem.W
set_option maxRecDepth 100000
set_option maxHeartbeats 4000000
namespace Mine.H
theorem fn14 : fnT 14 = fnOf (pieceAt 14) := by kernel_rfl
noncomputable def F14 : { f : Fn // fnT 14 = f } := by
  have h : fnOf (pieceAt 14) = fnOf (pieceAt 14) := rfl
  conv at h =>
    rhs
    arg 1
    whnf
  dsimp only [fnOf] at h
  exact ⟨_, fn14.trans h⟩
noncomputable def c14 : Cx := fnCx (fnT 14)
theorem fn6 : fnT 6 = fnOf (pieceAt 6) := by kernel_rfl
noncomputable def F6 : { f : Fn // fnT 6 = f } := by
  have h : fnOf (pieceAt 6) = fnOf (pieceAt 6) := rfl
  conv at h =>
    rhs
    arg 1
    whnf
  dsimp only [fnOf] at h
  exact ⟨_, fn6.trans h⟩
noncomputable def c6 : Cx := fnCx (fnT 6)
theorem fn8 : fnT 8 = fnOf (pieceAt 8) := by kernel_rfl
noncomputable def F8 : { f : Fn // fnT 8 = f } := by
  have h : fnOf (pieceAt 8) = fnOf (pieceAt 8) := rfl
  conv at h =>
    rhs
    arg 1
    whnf
  dsimp only [fnOf] at h
  exact ⟨_, fn8.trans h⟩
noncomputable def c8 : Cx := fnCx (fnT 8)
section
variable {G : Prog} {n : Nat} {c : Cx} {ρ : Rho}
theorem E_comp {elt target iter : Expr} {ifs : List Expr} {sc : Scope} {p : Pos} (h : compOk c sc target = true) {vs ys : List V} (hi : itE (lvl G n) c ρ target iter = some vs) (hl : vs.length ≤ 100000) (hc : compL (lvl G n) (compCx sc) (compRho sc ρ) elt target ifs vs = some ys) :
    (lvl G (n + 1)).E c ρ (.ListComp elt [⟨target, iter, ifs, 0⟩] sc p) = some (false, .lst ys) := by
  show ((if !compOk c sc target then Option.none else (itE (lvl G n) c ρ target iter).bind fun vs => if lenOk vs.length then compL (lvl G n) (compCx sc) (compRho sc ρ) elt target ifs vs else Option.none).map fun l => f0 (.lst l)) = _
  rw [h, hi]
  show ((if lenOk vs.length = true then compL (lvl G n) (compCx sc) (compRho sc ρ) elt target ifs vs else Option.none).map fun l => f0 (.lst l)) = _
  rw [len_ok hl, if_pos rfl, hc]; rfl
theorem compL_all {r : Evs} {elt target : Expr} {ifs : List Expr} {α : Type} {f : α → V} {b : α → Bool} {y : α → V} {ρv : α → Rho} : ∀ (l : List α), (∀ x ∈ l, bindT c ρ target (f x) = some (ρv x) ∧ ifsE r c (ρv x) ifs = some (b x) ∧ (b x = true → r.E c (ρv x) elt = some (false, y x))) →
    compL r c ρ elt target ifs (l.map f) = some ((l.filter b).map y)
  | [], _ => rfl
  | x :: l, h => by
    obtain ⟨h1, h2, h3⟩ := h x List.mem_cons_self
    have ih := compL_all l fun z hz => h z (List.mem_cons_of_mem _ hz)
    show ((bindT c ρ target (f x)).bind _) = _
    rw [h1, Option.bind_some]
    show ((ifsE r c (ρv x) ifs).bind _) = _
    rw [h2, Option.bind_some, List.filter_cons]
    cases hb : b x with
    | false => exact ih
    | true =>
      show ((pureE r c (ρv x) elt).bind fun y => (compL r c ρ elt target ifs (l.map f)).map fun ys => y :: ys) = _
      rw [pure_of (h3 hb), ih]; rfl
theorem cmp_in {u : List Nat} : cmpV .In (.str u) (.tup [.str [40], .str [41]]) = some (decide ([40] = u) || decide ([41] = u)) := by
  show some ([[40], [41]].any fun x => decide (x = u)) = _
  rw [List.any_cons, List.any_cons, List.any_nil, Bool.or_false]
theorem ifs_one {r : Evs} {e : Expr} {t b : Bool} (h : r.E c ρ e = some (t, .bool b)) : ifsE r c ρ [e] = some b := by
  show (((r.E c ρ e).bind fun p => boolO p.2).bind _) = _
  rw [h]
  cases b <;> rfl
theorem E_set {l : Expr} {p q : Pos} (h0 : find ρ (Str.ofString "b1_set") = Option.none) (h1 : isGl c (Str.ofString "b1_set") = true) {t : Bool} {i : Int} (h : (lvl G n).E c ρ l = some (t, .int i)) : (lvl G (n + 1)).E c ρ (.Compare l [.In] [.Name (Str.ofString "b1_set") q] p) = some (false, .bool (G.b1.any fun k => decide ((k : Int) = i))) := by
  have e : setAsk c ρ [.In] [.Name (Str.ofString "b1_set") q] = true := by
    show ((find ρ (Str.ofString "b1_set")).isNone && isGl c (Str.ofString "b1_set") && true) = true
    rw [h0, h1]; rfl
  show ((((lvl G n).E c ρ l).bind fun p => if setAsk c ρ [.In] [.Name (Str.ofString "b1_set") q] then (intO p.2).map fun i => G.b1.any fun k => decide ((k : Int) = i) else _).map fun b => f0 (.bool b)) = _
  rw [e, h]; rfl
theorem bi_none {f : Str} {vs : List V} (h : (["len", "chr", "ord", "int", "sum", "max", "min", "tuple"].all fun x => !(f == nm x)) = true) : biV f vs = Option.none := by
  simp only [List.all_cons, List.all_nil, Bool.and_true, Bool.and_eq_true, Bool.not_eq_true'] at h
  obtain ⟨a1, a2, a3, a4, a5, a6, a7, a8⟩ := h
  unfold biV
  rw [a1, a2, a3, a4, a5, a6, a7, a8]; rfl
theorem E_fn {f : Str} {p : Pos} {args : List Expr} {q : Pos} {vs : List V} {v : V} (h0 : find ρ f = Option.none) (h1 : isGl c f = true) (h2 : (f == nm "list") = false) (hb : (["len", "chr", "ord", "int", "sum", "max", "min", "tuple"].all fun x => !(f == nm x)) = true) (ha : evL (lvl G n) c ρ args = some (false, vs)) (hf : (lvl G n).F f vs = some v) :
    (lvl G (n + 1)).E c ρ (.Call (.Name f p) args [] q) = some (false, v) := v_fn h0 h1 h2 ha (bi_none hb) hf
end
theorem E_join {G : Prog} {n : Nat} {c : Cx} {ρ : Rho} {o : Expr} {apos : Pos} {args : List Expr} {pos : Pos} {u : Bool} {Q : List (List Nat)} (hp : (apos.endLine != pos.line || (decide (30 ≤ args.length) || bareCall o)) = false) (hd : dictAsk c ρ o (Str.ofString "join") = false) (ho : (lvl G n).E c ρ o = some (false, .str []))
    (ha : evL (lvl G n) c ρ args = some (u, [.lst (Q.map V.str)])) (hb : Q.flatten.length ≤ 90000) : (lvl G (n + 1)).E c ρ (.Call (.Attribute o (Str.ofString "join") apos) args [] pos) = some (false, .str Q.flatten) := v_met hp hd ho ha (meth_join hb)
noncomputable def rowU (l : List (Nat × List Nat)) : List (Nat × List Nat) := l.filter fun x => decide ([40] = x.2) || decide ([41] = x.2)
noncomputable def rowF (T : List Nat) : List Nat := ((rowU (itL 0 false (stripF T))).map (·.2)).flatten
theorem strip_len (T : List Nat) (hT : T.length ≤ 200) : (stripF T).length ≤ 90000 := by
  unfold stripF
  split
  · have hi0 : SI T (0, none, []) (itL 0 false T).length := ⟨Nat.zero_le _, fun q e => (by cases e), (by have := it_len T 0 false; dsimp only; simp; omega), fun x hx => (by cases hx)⟩
    have hall : ∀ (l : List (Nat × List Nat)) s, (∀ x ∈ l, x.1 < T.length) → SI T s l.length → SI T (stripS T s l) 0 := by
      intro l
      induction l with
      | nil => exact fun s _ h => h
      | cons x l ih => exact fun s hp h => ih _ (fun y hy => hp y (List.mem_cons_of_mem _ hy)) (h.step hT (hp x List.mem_cons_self))
    have hs := hall (itL 0 false T) _ (fun x hx => by have := it_lt T 0 false (by simp) x hx; omega) hi0
    generalize stripS T (0, none, []) (itL 0 false T) = s at hs
    obtain ⟨a, o, R⟩ := s
    obtain ⟨i1, i2, i3, i4⟩ := hs
    dsimp only at i1 i2 i3 i4 ⊢
    have hfl : ∀ (Q : List (List Nat)), (∀ x ∈ Q, x.length ≤ 200) → Q.flatten.length ≤ 200 * Q.length := by
      intro Q
      induction Q with
      | nil => simp
      | cons x Q ih =>
        intro h
        have a := h x List.mem_cons_self
        have b := ih fun y hy => h y (List.mem_cons_of_mem _ hy)
        simp only [List.flatten_cons, List.length_append, List.length_cons]
        omega
    refine Nat.le_trans (hfl _ fun x hx => ?_) ?_
    · rcases List.mem_append.mp hx with hx | hx
      · exact i4 x hx
      · split at hx
        · rw [List.mem_singleton.mp hx, List.length_drop]; omega
        · cases hx
    · rw [List.length_append]
      split <;> simp <;> omega
  · omega
theorem row_F (n : Nat) (T : List Nat) (hT : T.length ≤ 200) (hs : (stripF T).length ≤ 200) : (lvl GP (n + 20)).F (nm "_law_row") [.str T] = some (.str (rowF T)) := by
  have g1 : isGl c14 (Str.ofString "_iter_escaped_chars") = true := by kernel_rfl
  have g2 : isGl c14 (Str.ofString "_strip_quoted_realnames") = true := by kernel_rfl
  have hlen : ((rowU (itL 0 false (stripF T))).map (·.2)).flatten.length ≤ 90000 := by
    have h1 : ∀ (l : List (Nat × List Nat)), ((rowU l).map (·.2)).flatten.length ≤ l.length := by
      intro l
      induction l with
      | nil => simp [rowU]
      | cons x l ih =>
        unfold rowU at ih ⊢
        rw [List.filter_cons]
        split
        · rename_i h
          have : x.2.length = 1 := by
            simp only [Bool.or_eq_true, decide_eq_true_eq] at h
            rcases h with h | h <;> rw [← h] <;> rfl
          simp only [List.map_cons, List.flatten_cons, List.length_append, List.length_cons]
          omega
        · simp only [List.length_cons]; omega
    have := h1 (itL 0 false (stripF T))
    have := it_len (stripF T) 0 false
    omega
  have hit := it_len (stripF T) 0 false
  have hS := strip_F (n + 1) T hT
  have hx : (lvl GP (n + 19)).X c14 [(nm "text", .val (.str T))] F14.val.body = some (.ret (.str (rowF T)), [(Str.ofString "text", .val (.str T))]) := by
    show (lvl GP (n + 19)).X c14 [(Str.ofString "text", .val (.str T))] F14.val.body = _
    dsimp only [F14]
    apply y_start
    apply execL_ret
    apply s_ret
    show (lvl GP (n + 18)).E c14 _ _ = some (false, .str (((rowU (itL 0 false (stripF T))).map (·.2)).flatten))
    apply E_join (u := false) (Q := (rowU (itL 0 false (stripF T))).map (·.2))
    · rfl
    · rfl
    · walk_at "ev"
    rotate_left
    · exact hlen
    apply evL_of_one (hs := rfl)
    refine E_comp (vs := (itL 0 false (stripF T)).map itW) (by kernel_rfl) ?it (by rw [List.length_map]; omega) ?co
    case it =>
      rw [← esc_it _ _ _ (by simp)]
      refine itE_esc (t := false) (s := stripF T) (by walk_at "ev") g1 rfl ?_ (by omega)
      exact E_fn (vs := [.str T]) (by walk_at "ev") g2 (by kernel_rfl) (by kernel_rfl) (by walk_at "ev") hS
    case co =>
      rw [compL_all (f := itW) (b := fun x => decide ([40] = x.2) || decide ([41] = x.2)) (y := fun x => .str x.2) (ρv := fun x => upd (upd [] (Str.ofString "place") (.val (.int (x.1 : Int)))) (Str.ofString "unit") (.val (.str x.2))) _ fun x _ => ⟨?b1, ?b2, fun _ => ?b3⟩]
      · rw [rowU, List.map_map]; rfl
      case b1 => exact b_tup2 (by kernel_rfl) (by kernel_rfl)
      case b2 =>
        have hc := cmp_in (u := x.2)
        exact ifs_one (t := false) (by walk_at "ev")
      case b3 => walk_at "ev"
  have h := hx
  rw [← F14.2] at h
  exact F_of (g := fnT 14) (by kernel_rfl) (by kernel_rfl) (by kernel_rfl) h
end Mine.H
end
section
open PySem PySem.Calls PyProof.Rows PySem.W
set_option maxRecDepth 100000
set_option maxHeartbeats 4000000
namespace Mine.H
theorem b1_F (n : Nat) (k : Nat) : (lvl GP (n + 8)).F (nm "in_table_b1") [.str [k]] = some (.bool (b1L.any fun j => decide (j = k))) := by
  have g1 : isGl c6 (Str.ofString "b1_set") = true := by kernel_rfl
  have g2 : isGl c6 (Str.ofString "ord") = true := by kernel_rfl
  have hb : GP.b1 = b1L := by kernel_rfl
  have ho := bi_ord (k := k)
  have hx : (lvl GP (n + 7)).X c6 [(nm "code", .val (.str [k]))] F6.val.body = some (.ret (.bool (b1L.any fun j => decide (j = k))), [(Str.ofString "code", .val (.str [k]))]) := by
    show (lvl GP (n + 7)).X c6 [(Str.ofString "code", .val (.str [k]))] F6.val.body = _
    dsimp only [F6]
    apply y_start
    apply execL_ret
    apply s_ret (t := false)
    rw [E_set (t := false) (i := (k : Int)) (by walk_at "ev") g1 (by walk_at "ev"), hb]
    simp only [Int.natCast_inj]
  have h := hx
  rw [← F6.2] at h
  exact F_of (g := fnT 6) (by kernel_rfl) (by kernel_rfl) (by kernel_rfl) h
noncomputable def b3f (k : Nat) : List Nat := match GP.b3.lookup (k : Int) with
  | some t => t
  | none => lowC k
section
variable {G : Prog} {n : Nat} {c : Cx} {ρ : Rho}
theorem E_get {apos : Pos} {a : Expr} {pos q : Pos} (hp : (apos.endLine != pos.line || (decide (30 ≤ [a].length) || bareCall (.Name (Str.ofString "b3_exceptions") q))) = false) (h0 : find ρ (Str.ofString "b3_exceptions") = Option.none) (h1 : isGl c (Str.ofString "b3_exceptions") = true) (hs : isStar a = false) {t : Bool} {i : Int} (h : (lvl G n).E c ρ a = some (t, .int i)) :
    (lvl G (n + 1)).E c ρ (.Call (.Attribute (.Name (Str.ofString "b3_exceptions") q) (Str.ofString "get") apos) [a] [] pos) = some (false, b3V G i) := by
  have hd : dictAsk c ρ (.Name (Str.ofString "b3_exceptions") q) (Str.ofString "get") = true := by
    show ((find ρ (Str.ofString "b3_exceptions")).isNone && isGl c (Str.ofString "b3_exceptions") && true && true) = true
    rw [h0, h1]; rfl
  show ((if (apos.endLine != pos.line || (decide (30 ≤ [a].length) || bareCall (.Name (Str.ofString "b3_exceptions") q))) = true then Option.none else if dictAsk c ρ (.Name (Str.ofString "b3_exceptions") q) (Str.ofString "get") = true then (if isStar a then Option.none else ((lvl G n).E c ρ a).bind fun p => (intO p.2).map (b3V G)) else _).map f0) = _
  rw [hp, hd, hs, h]; rfl
theorem meth_lower {k : Nat} : methS [k] (Str.ofString "lower") [] = some (.str (lowC k)) := rfl
end
theorem b3_F (n : Nat) (k : Nat) : (lvl GP (n + 8)).F (nm "map_table_b3") [.str [k]] = some (.str (b3f k)) := by
  have g1 : isGl c8 (Str.ofString "b3_exceptions") = true := by kernel_rfl
  have g2 : isGl c8 (Str.ofString "ord") = true := by kernel_rfl
  have j0 : okK c8 (Str.ofString "r") = true := by kernel_rfl
  have m0 : c8.mu.contains (Str.ofString "r") = false := by kernel_rfl
  have F : ∀ ρ' v, (lvl GP (n + 7)).X c8 [(nm "code", .val (.str [k]))] F8.val.body = some (.ret v, ρ') → (lvl GP (n + 8)).F (nm "map_table_b3") [.str [k]] = some v := by
    intro ρ' v h
    rw [← F8.2] at h
    exact F_of (g := fnT 8) (by kernel_rfl) (by kernel_rfl) (by kernel_rfl) h
  have ho := bi_ord (k := k)
  have i0 : cmpV .IsNot .none .none = some false := rfl
  have i1 : ∀ t : List Nat, cmpV .IsNot (.str t) .none = some true := fun _ => rfl
  unfold b3f
  have hv : b3V GP (k : Int) = match GP.b3.lookup (k : Int) with | some t => .str t | Option.none => .none := rfl
  cases hl : GP.b3.lookup (k : Int) with
  | some t =>
    rw [hl] at hv
    have i1 := i1 t
    refine F (upd [(Str.ofString "code", .val (.str [k]))] (Str.ofString "r") (.val (.str t))) _ ?_
    show (lvl GP (n + 7)).X c8 [(Str.ofString "code", .val (.str [k]))] F8.val.body = _
    dsimp only [F8]
    apply y_start
    apply y_cons
    · apply s_asg (v := .str t)
      · rfl
      · exact j0
      · exact m0
      rw [E_get (t := false) (i := (k : Int)) rfl (by walk_at "ev") g1 rfl (by walk_at "ev")]
      exact congrArg (fun v => some (false, v)) hv
    apply execL_ret
    apply s_ift
    · walk_at "ev"
    apply x_one
    walk_at "ev"
  | none =>
    rw [hl] at hv
    refine F (upd [(Str.ofString "code", .val (.str [k]))] (Str.ofString "r") (.val .none)) _ ?_
    show (lvl GP (n + 7)).X c8 [(Str.ofString "code", .val (.str [k]))] F8.val.body = _
    dsimp only [F8]
    apply y_start
    apply y_cons
    · apply s_asg (v := .none)
      · rfl
      · exact j0
      · exact m0
      rw [E_get (t := false) (i := (k : Int)) rfl (by walk_at "ev") g1 rfl (by walk_at "ev")]
      exact congrArg (fun v => some (false, v)) hv
    apply y_cons
    · apply s_iff
      · walk_at "ev"
      exact x_nil
    apply execL_ret
    apply s_ret
    exact v_met (l := [k]) (vs := []) rfl rfl (by walk_at "ev") l_nil meth_lower
theorem b3_ascii : (b3f 92, b3f 34, b3f 40, b3f 41) = ([92], [34], [40], [41]) := by kernel_rfl
noncomputable def greats : List (Nat × Nat) := giL.flatMap fun g => (List.range 26).map fun (e : Nat) => ((119808 + 52 * g + (e : Int)).toNat, 97 + e)
theorem b3_great1 : (greats.take 130).all (fun p => decide (b3f p.1 = [p.2])) = true := by kernel_rfl
theorem b3_great2 : (greats.drop 130).all (fun p => decide (b3f p.1 = [p.2])) = true := by kernel_rfl
theorem b3_great : greats.all (fun p => decide (b3f p.1 = [p.2])) = true := all_cut 130 b3_great1 b3_great2
end Mine.H
end
section
open PySem PySem.Calls PyProof.Rows PySem.W
set_option maxRecDepth 100000
set_option maxHeartbeats 4000000
namespace Mine.H
noncomputable def uU : Bool → List Nat → List (List Nat)
  | true, [] => [[92]]
  | false, [] => []
  | true, c :: r => [92, c] :: uU false r
  | false, c :: r => if c = 92 then uU true r else [c] :: uU false r
theorem it_snd : ∀ (l : List Nat) (p : Nat) (b : Bool), (itL p b l).map (·.2) = uU b l
  | [], _, true => rfl
  | [], _, false => rfl
  | c :: r, p, true => by simp only [itL, uU, List.map_cons, it_snd r]
  | c :: r, p, false => by
    simp only [itL, uU]
    split
    · exact it_snd r _ _
    · simp only [List.map_cons, it_snd r]
noncomputable def endE : Bool → List Nat → Bool
  | b, [] => b
  | true, _ :: r => endE false r
  | false, c :: r => if c = 92 then endE true r else endE false r
theorem uU_app : ∀ (S T : List Nat) (b : Bool), endE b S = false → uU b (S ++ T) = uU b S ++ uU false T
  | [], T, b, h => by
    simp only [endE] at h
    subst h
    rfl
  | c :: S, T, true, h => by
    simp only [endE] at h
    simp only [List.cons_append, uU, uU_app S T false h]
  | c :: S, T, false, h => by
    simp only [endE] at h
    simp only [List.cons_append, uU]
    split
    · rename_i e
      rw [if_pos e] at h
      exact uU_app S T true h
    · rename_i e
      rw [if_neg e] at h
      simp only [List.cons_append, uU_app S T false h]
theorem endE_app : ∀ (S T : List Nat) (b : Bool), endE b (S ++ T) = endE (endE b S) T
  | [], T, b => rfl
  | c :: S, T, true => by simp only [List.cons_append, endE, endE_app S T]
  | c :: S, T, false => by
    simp only [List.cons_append, endE]
    split
    · exact endE_app S T true
    · exact endE_app S T false
noncomputable def scan : List Nat × Option (List Nat) → List (List Nat) → List Nat × Option (List Nat)
  | s, [] => s
  | (t, none), u :: us => if u = [34] then scan (t ++ u, some t) us else scan (t ++ u, none) us
  | (t, some t0), u :: us => if u = [34] then scan (t0, none) us else scan (t ++ u, some t0) us
theorem scan_app : ∀ (us vs : List (List Nat)) (s : List Nat × Option (List Nat)), scan s (us ++ vs) = scan (scan s us) vs
  | [], vs, s => by simp [scan]
  | u :: us, vs, (t, none) => by
    simp only [List.cons_append, scan]
    split <;> exact scan_app us vs _
  | u :: us, vs, (t, some t0) => by
    simp only [List.cons_append, scan]
    split <;> exact scan_app us vs _
theorem scan_shift (x : List Nat) : ∀ (us : List (List Nat)) (t : List Nat) (o : Option (List Nat)), scan (x ++ t, o.map (x ++ ·)) us = (x ++ (scan (t, o) us).1, (scan (t, o) us).2.map (x ++ ·))
  | [], t, o => by simp [scan]
  | u :: us, t, none => by
    simp only [Option.map_none, scan]
    split
    · have := scan_shift x us (t ++ u) (some t)
      simpa using this
    · have := scan_shift x us (t ++ u) none
      simpa using this
  | u :: us, t, some t0 => by
    simp only [Option.map_some, scan]
    split
    · have := scan_shift x us t0 none
      simpa using this
    · have := scan_shift x us (t ++ u) (some t0)
      simpa using this
structure SM (T : List Nat) (k : Nat) (s : Nat × Option Nat × List (List Nat)) (v : List Nat × Option (List Nat)) : Prop where
  kk : k ≤ T.length
  h : match s.2.1, v.2 with
    | none, none => s.1 ≤ k ∧ v.1 = s.2.2.flatten ++ (T.take k).drop s.1
    | some q, some t0 => s.1 ≤ q ∧ q ≤ k ∧ t0 = s.2.2.flatten ++ (T.take q).drop s.1 ∧ v.1 = t0 ++ (T.take k).drop q
    | _, _ => False
theorem take_drop_more {T : List Nat} {a k m : Nat} (ha : a ≤ k) : (T.take (k + m)).drop a = (T.take k).drop a ++ (T.drop k).take m := by
  rw [List.take_add]
  by_cases h : k ≤ T.length
  · rw [List.drop_append_of_le_length (by rw [List.length_take]; omega)]
  · have h1 : T.drop k = [] := List.drop_eq_nil_of_le (by omega)
    rw [h1]; simp
theorem scan_step {T : List Nat} {k p : Nat} {u : List Nat} {s : Nat × Option Nat × List (List Nat)} {v : List Nat × Option (List Nat)} (h : SM T k s v) (hu : (T.drop k).take u.length = u) (hk : k + u.length ≤ T.length) (hp : u = [34] → p = k) : SM T (k + u.length) (stepS T s p u) (scan v [u]) := by
  obtain ⟨a, o, R⟩ := s
  obtain ⟨t, ot⟩ := v
  obtain ⟨hk0, h⟩ := h
  refine ⟨hk, ?_⟩
  have more : ∀ b, b ≤ k → (T.take (k + u.length)).drop b = (T.take k).drop b ++ u := fun b hb => by rw [take_drop_more hb, hu]
  unfold stepS
  cases o with
  | none =>
    cases ot with
    | some _ => exact h.elim
    | none =>
      obtain ⟨h1, h2⟩ := h
      dsimp only at h1 h2
      by_cases e : u = [34]
      · have hpk := hp e
        subst hpk
        rw [if_pos e]
        simp only [scan, if_pos e]
        refine ⟨h1, by omega, h2, ?_⟩
        rw [more p (Nat.le_refl _)]
        simp
      · rw [if_neg e]
        simp only [scan, if_neg e]
        exact ⟨by omega, by rw [h2, more a h1, List.append_assoc]⟩
  | some q =>
    cases ot with
    | none => exact h.elim
    | some t0 =>
      obtain ⟨h1, h2, h3, h4⟩ := h
      dsimp only at h1 h2 h3 h4
      by_cases e : u = [34]
      · have hpk := hp e
        subst hpk
        rw [if_pos e]
        simp only [scan, if_pos e]
        refine ⟨by rw [e]; simp, ?_⟩
        have hl : u.length = 1 := by rw [e]; rfl
        have hz : List.drop (p + 1) (List.take (p + u.length) T) = [] := List.drop_eq_nil_of_le (by rw [List.length_take]; omega)
        rw [hz, List.append_nil]
        by_cases haq : a = q
        · rw [if_pos haq, h3, haq]
          have : List.drop q (List.take q T) = [] := List.drop_eq_nil_of_le (by rw [List.length_take]; omega)
          rw [this, List.append_nil]
        · rw [if_neg haq, h3]
          simp
      · rw [if_neg e]
        simp only [scan, if_neg e]
        exact ⟨h1, by omega, h3, by rw [h4, more q h2, List.append_assoc]⟩
theorem scan_all (T : List Nat) : ∀ (n k : Nat) (s : Nat × Option Nat × List (List Nat)) (v : List Nat × Option (List Nat)), T.length - k ≤ n → SM T k s v → SM T T.length (stripS T s (itL k false (T.drop k))) (scan v (uU false (T.drop k)))
  | n, k, s, v, hn, h => by
    by_cases hk : k = T.length
    · subst hk
      simpa [itL, uU, stripS, scan] using h
    · have hlt : k < T.length := by have := h.kk; omega
      have hd : T.drop k = T[k] :: T.drop (k + 1) := List.drop_eq_getElem_cons hlt
      cases n with
      | zero => omega
      | succ n =>
        have tk : ∀ m, (T.drop k).take m = (T.take (k + m)).drop k := fun m => by rw [take_drop_more (Nat.le_refl _)]; simp [List.drop_eq_nil_of_le, List.length_take, Nat.min_le_left]
        generalize T[k] = c at hd
        by_cases hc : c = 92
        · subst hc
          cases hr : T.drop (k + 1) with
          | nil =>
            have hl : k + 1 = T.length := by have := List.drop_eq_nil_iff.mp hr; omega
            rw [hr] at hd
            have st := scan_step (p := k + 1 - 1) (u := [92]) h (by rw [hd]; rfl) (by simp; omega) (by intro e; cases e)
            rw [hd]
            simp only [itL, uU, if_true, stripS, List.foldl_cons, List.foldl_nil]
            rw [← hl]
            exact st
          | cons c' r =>
            rw [hr] at hd
            have h2 : T.drop (k + 2) = r := by
              have := congrArg (List.drop 1) hr
              simpa using this
            have hlt2 : k + 2 ≤ T.length := by
              have := congrArg List.length hr
              simp at this; omega
            have st := scan_step (p := k + 1) (u := [92, c']) h (by rw [hd]; rfl) (by simp; omega) (by intro e; cases e)
            have ih := scan_all T n (k + 2) _ _ (by omega) st
            rw [h2] at ih
            rw [hd]
            simp only [itL, uU, if_true, stripS, List.foldl_cons]
            have e : scan v ([92, c'] :: uU false r) = scan (scan v [[92, c']]) (uU false r) := scan_app [[92, c']] _ v
            rw [e]
            exact ih
        · have st := scan_step (p := k) (u := [c]) h (by rw [hd]; rfl) (by simp; omega) (fun _ => rfl)
          have ih := scan_all T n (k + 1) _ _ (by omega) st
          rw [hd]
          simp only [itL, uU, if_neg hc, stripS, List.foldl_cons]
          have e : scan v ([c] :: uU false (T.drop (k + 1))) = scan (scan v [[c]]) (uU false (T.drop (k + 1))) := scan_app [[c]] _ v
          rw [e]
          exact ih
theorem flat_uU : ∀ (l : List Nat) (b : Bool), (uU b l).flatten = (if b = true then [92] else []) ++ l
  | [], true => rfl
  | [], false => rfl
  | c :: r, true => by simp [uU, flat_uU r false]
  | c :: r, false => by
    simp only [uU]
    split
    · rename_i e; subst e; rw [flat_uU r true]; simp
    · simp [flat_uU r false]
theorem scan_flat : ∀ (us : List (List Nat)) (t : List Nat), [34] ∉ us → scan (t, none) us = (t ++ us.flatten, none)
  | [], t, _ => by simp [scan]
  | u :: us, t, h => by
    simp only [List.mem_cons, not_or] at h
    simp only [scan, if_neg (fun (e : u = [34]) => h.1 e.symm), scan_flat us _ h.2, List.flatten_cons, List.append_assoc]
theorem strip_scan (T : List Nat) : stripF T = (scan ([], none) (uU false T)).1 := by
  unfold stripF
  by_cases hq : 34 ∈ T
  · rw [if_pos hq]
    have h0 : SM T 0 (0, none, []) ([], none) := ⟨Nat.zero_le _, Nat.le_refl _, by simp⟩
    have h := scan_all T T.length 0 _ _ (by omega) h0
    rw [List.drop_zero] at h
    generalize stripS T (0, none, []) (itL 0 false T) = s at h
    generalize scan ([], none) (uU false T) = v at h
    obtain ⟨a, o, R⟩ := s
    obtain ⟨t, ot⟩ := v
    obtain ⟨_, h⟩ := h
    have fin : (R ++ if a < T.length then [T.drop a] else []).flatten = R.flatten ++ T.drop a := by
      rw [List.flatten_append]
      split
      · simp
      · rename_i hn
        rw [List.drop_eq_nil_of_le (by omega)]; simp
    dsimp only at h ⊢
    rw [fin]
    cases o with
    | none =>
      cases ot with
      | some _ => exact h.elim
      | none => rw [h.2, List.take_length]
    | some q =>
      cases ot with
      | none => exact h.elim
      | some t0 =>
        obtain ⟨h1, h2, h3, h4⟩ := h
        rw [h4, h3, List.take_length, List.append_assoc]
        congr 1
        have : T.drop a = (T.take q).drop a ++ T.drop q := by
          conv => lhs; rw [← List.take_append_drop q T]
          rw [List.drop_append_of_le_length (by rw [List.length_take]; omega)]
        exact this
  · rw [if_neg hq]
    have hn : [34] ∉ uU false T := by
      intro hm
      apply hq
      have : 34 ∈ (uU false T).flatten := List.mem_flatten.mpr ⟨_, hm, by simp⟩
      rw [flat_uU] at this
      simpa using this
    rw [scan_flat _ _ hn, flat_uU]
    simp
end Mine.H
end
section
open PySem PySem.Calls PyProof.Rows PySem.W
set_option maxRecDepth 100000
set_option maxHeartbeats 4000000
namespace Mine.H
noncomputable def isBr (u : List Nat) : Bool := decide ([40] = u) || decide ([41] = u)
noncomputable def rowOf (l : List Nat) : List Nat := ((uU false l).filter isBr).flatten
theorem row_is (T : List Nat) : rowF T = rowOf (stripF T) := by
  unfold rowF rowOf rowU
  rw [← it_snd (stripF T) 0 false, List.filter_map]
  rfl
theorem rowOf_app {S T : List Nat} (h : endE false S = false) : rowOf (S ++ T) = rowOf S ++ rowOf T := by
  unfold rowOf
  rw [uU_app S T false h, List.filter_append, List.flatten_append]
noncomputable def b1b (k : Nat) : Bool := b1L.any fun j => decide (j = k)
noncomputable def toldL (S : List Nat) : List Nat := ((S.filter fun k => !b1b k).map b3f).flatten
theorem told_app {S T : List Nat} : toldL (S ++ T) = toldL S ++ toldL T := by
  unfold toldL
  rw [List.filter_append, List.map_append, List.flatten_append]
structure GoodC (l : Int) (S s : List Nat) : Prop where
  e : endE false S = false
  st : (scan ([], none) (uU false S)).1 = s
  es : endE false s = false
  op : l = 0 → (scan ([], none) (uU false S)).2 = none
theorem scan_flat2 : ∀ (us : List (List Nat)) (t t0 : List Nat), [34] ∉ us → scan (t, some t0) us = (t ++ us.flatten, some t0)
  | [], t, t0, _ => by simp [scan]
  | u :: us, t, t0, h => by
    simp only [List.mem_cons, not_or] at h
    simp only [scan, if_neg (fun (e : u = [34]) => h.1 e.symm), scan_flat2 us _ t0 h.2, List.flatten_cons, List.append_assoc]
theorem good_app {l : Int} {R R' B : List Nat} (g : GoodC l R R') (h1 : endE false B = false) (h2 : [34] ∉ uU false B) : GoodC l (R ++ B) (R' ++ B) := by
  have hu := uU_app R B false g.e
  have hs : scan ([], none) (uU false (R ++ B)) = scan (scan ([], none) (uU false R)) (uU false B) := by rw [hu, scan_app]
  generalize hv : scan ([], none) (uU false R) = v at hs
  obtain ⟨t, o⟩ := v
  have ht : t = R' := by have := g.st; rw [hv] at this; exact this
  subst ht
  have hf : (uU false B).flatten = B := by rw [flat_uU]; rfl
  refine ⟨by rw [endE_app, g.e, h1], ?_, by rw [endE_app, g.es, h1], fun hl => ?_⟩
  · rw [hs]
    cases o with
    | none => rw [scan_flat _ _ h2, hf]
    | some t0 => rw [scan_flat2 _ _ _ h2, hf]
  · have := g.op hl
    rw [hv] at this
    dsimp only at this
    subst this
    rw [hs, scan_flat _ _ h2]
noncomputable def body (a b : Nat) (u s : Nat) : List Nat := List.replicate a 92 ++ (u :: (List.replicate b 92 ++ [s]))
noncomputable def tail (c s : Nat) : List Nat := List.replicate c 92 ++ [s]
structure Sign (u : Nat) : Prop where
  a : u ≠ 92
  b : u ≠ 34
  c : u ≠ 40
  d : u ≠ 41
theorem body_facts {a b u s : Nat} (ha : a ≤ 3) (hb : b ≤ 3) (hu : Sign u) (hs : s = 40 ∨ s = 41) : endE false (body a b u s) = false ∧ [34] ∉ uU false (body a b u s) ∧ rowOf (body a b u s) = if b % 2 = 0 then [s] else [] := by
  obtain ⟨u1, u2, u3, u4⟩ := hu
  have u3' : ¬ 40 = u := fun e => u3 e.symm
  have u4' : ¬ 41 = u := fun e => u4 e.symm
  have u2' : ¬ 34 = u := fun e => u2 e.symm
  have ha' : a = 0 ∨ a = 1 ∨ a = 2 ∨ a = 3 := by omega
  have hb' : b = 0 ∨ b = 1 ∨ b = 2 ∨ b = 3 := by omega
  rcases hs with rfl | rfl <;> rcases ha' with rfl | rfl | rfl | rfl <;> rcases hb' with rfl | rfl | rfl | rfl <;>
    simp [body, endE, uU, rowOf, isBr, u1, u2, u3, u4, u2', u3', u4', List.replicate]
theorem tail_facts {c s : Nat} (hc : c ≤ 6) (hs : s = 40 ∨ s = 41) : endE false (tail c s) = false ∧ [34] ∉ uU false (tail c s) ∧ rowOf (tail c s) = if c % 2 = 0 then [s] else [] := by
  have hc' : c = 0 ∨ c = 1 ∨ c = 2 ∨ c = 3 ∨ c = 4 ∨ c = 5 ∨ c = 6 := by omega
  rcases hs with rfl | rfl <;> rcases hc' with rfl | rfl | rfl | rfl | rfl | rfl | rfl <;> decide
inductive Ride : List Nat → List Nat → Prop
  | nil : Ride [] []
  | quoted (o : Nat) : o = 40 ∨ o = 41 → Ride [34, o, 34] []
  | esc (o : Nat) : o = 40 ∨ o = 41 → Ride [92, o] [92, o]
  | one (g : Nat) : Sign g → Ride [g] [g]
  | mark : Ride [92, 34] [92, 34]
  | two : Ride [34, 34] []
theorem ride_facts {l : Int} {R R' : List Nat} (h : Ride R R') : GoodC l R R' ∧ rowOf R' = [] := by
  cases h with
  | nil => exact ⟨⟨rfl, rfl, rfl, fun _ => rfl⟩, rfl⟩
  | quoted o ho => rcases ho with rfl | rfl <;> exact ⟨⟨by decide, by decide, rfl, fun _ => by decide⟩, rfl⟩
  | esc o ho => rcases ho with rfl | rfl <;> exact ⟨⟨by decide, by decide, by decide, fun _ => by decide⟩, by decide⟩
  | one g hg =>
    obtain ⟨u1, u2, u3, u4⟩ := hg
    have u3' : ¬ 40 = g := fun e => u3 e.symm
    have u4' : ¬ 41 = g := fun e => u4 e.symm
    exact ⟨⟨by simp [endE, u1], by simp [uU, u1, scan, u2], by simp [endE, u1], fun _ => by simp [uU, u1, scan, u2]⟩, by simp [rowOf, uU, u1, isBr, u3', u4']⟩
  | mark => exact ⟨⟨by decide, by decide, by decide, fun _ => by decide⟩, by decide⟩
  | two => exact ⟨⟨by decide, by decide, rfl, fun _ => by decide⟩, rfl⟩
theorem lone_facts {l : Int} (hl : l = 1) : GoodC l [34] [34] ∧ rowOf [34] = [] := ⟨⟨by decide, by decide, by decide, fun e => by omega⟩, by decide⟩
end Mine.H
end
section
open PySem PySem.Calls PyProof.Rows PySem.W
set_option maxRecDepth 100000
set_option maxHeartbeats 4000000
namespace Mine.H
theorem bk_is {i : Int} : bk i = List.replicate i.toNat 92 := by
  unfold bk
  generalize i.toNat = n
  induction n with
  | zero => rfl
  | succ n ih => rw [List.replicate_succ, List.flatten_cons, ih, List.replicate_succ]; rfl
theorem signs_b1 : (b1L.all fun k => decide (k ≠ 92) && decide (k ≠ 34) && decide (k ≠ 40) && decide (k ≠ 41)) = true := by decide +kernel
theorem signs_gr : (greats.all fun p => decide (p.1 ≠ 92) && decide (p.1 ≠ 34) && decide (p.1 ≠ 40) && decide (p.1 ≠ 41) && decide (p.2 ≠ 92) && decide (p.2 ≠ 34) && decide (p.2 ≠ 40) && decide (p.2 ≠ 41) && !b1b p.1) = true := by decide +kernel
theorem b1_ascii : (b1b 92, b1b 34, b1b 40, b1b 41) = (false, false, false, false) := by decide +kernel
theorem un_mem {x : Int} : un x ∈ b1L := by
  have h := fm (a := x.fdiv 36) (b := 27) (by omega)
  unfold un
  rw [List.getD_eq_getElem?_getD]
  have : ((x.fdiv 36).fmod 27).toNat < b1L.length := by simp [b1L]; omega
  rw [List.getElem?_eq_getElem this]
  exact List.getElem_mem this
theorem gr_mem {x : Int} : (gr x, (97 + le x).toNat) ∈ greats := by
  have h := fm (a := x.fdiv 25272) (b := 10) (by omega)
  have hle := le_range (x := x)
  have hg : gi x ∈ giL := by
    unfold gi
    rw [List.getD_eq_getElem?_getD]
    have : ((x.fdiv 25272).fmod 10).toNat < giL.length := by simp [giL]; omega
    rw [List.getElem?_eq_getElem this]
    exact List.getElem_mem this
  unfold greats
  refine List.mem_flatMap.mpr ⟨gi x, hg, List.mem_map.mpr ⟨(le x).toNat, List.mem_range.mpr (by omega), ?_⟩⟩
  unfold gr
  have e : (((le x).toNat : Nat) : Int) = le x := Int.toNat_of_nonneg hle.1
  rw [e]
  congr 1
  omega
theorem sg_cases {x : Int} : (sg x = 40 ∨ sg x = 41) ∧ (ot x = 40 ∨ ot x = 41) := by
  unfold sg ot
  split <;> simp
theorem told_sg {s : Nat} (h : s = 40 ∨ s = 41) : toldL [s] = [s] := by
  have a := b1_ascii
  have b := b3_ascii
  simp only [Prod.mk.injEq] at a b
  rcases h with rfl | rfl <;> simp [toldL, a, b]
theorem told_92 (n : Nat) : toldL (List.replicate n 92) = List.replicate n 92 := by
  have a := b1_ascii
  have b := b3_ascii
  simp only [Prod.mk.injEq] at a b
  induction n with
  | zero => rfl
  | succ n ih =>
    rw [List.replicate_succ, show (92 :: List.replicate n 92) = [92] ++ List.replicate n 92 from rfl, told_app, ih]
    simp [toldL, a, b]
theorem ride_all (x l : Int) (hl : 0 ≤ l ∧ l ≤ 1) : ∃ R' Q', (GoodC l (rd x l) R' ∧ rowOf R' = []) ∧ (GoodC l (sm x l) Q' ∧ rowOf Q' = []) ∧ toldL (rd x l) = sm x l ∧ R'.length ≤ 3 ∧ Q'.length ≤ 3 := by
  have a := b1_ascii
  have b := b3_ascii
  simp only [Prod.mk.injEq] at a b
  have hg := gr_mem (x := x)
  have g1 := List.all_eq_true.mp signs_gr _ hg
  have g2 := List.all_eq_true.mp b3_great _ hg
  simp only [Bool.and_eq_true, decide_eq_true_eq, Bool.not_eq_true'] at g1 g2
  obtain ⟨⟨⟨⟨⟨⟨⟨⟨p1, p2⟩, p3⟩, p4⟩, q1⟩, q2⟩, q3⟩, q4⟩, pb⟩ := g1
  have hot := (sg_cases (x := x)).2
  have h' := fm (a := x.fdiv 6) (b := 6) (by omega)
  unfold sm
  generalize hr : rd x l = R
  unfold rd at hr
  generalize (x.fdiv 6).fmod 6 = k at h' hr
  have hk : k = 0 ∨ k = 1 ∨ k = 2 ∨ k = 3 ∨ k = 4 ∨ k = 5 := by omega
  rcases hk with r | r | r | r | r | r <;> subst r
  · have : R = [] := by rw [← hr]; rfl
    subst this
    exact ⟨[], [], ride_facts .nil, by simpa using ride_facts .nil, by simp [toldL], by simp, by simp⟩
  · have : R = [34, ot x, 34] := by rw [← hr]; rfl
    subst this
    refine ⟨[], [], ride_facts (.quoted _ hot), ?_, ?_, by simp, by simp⟩
    · rw [if_neg (by simp)]; exact ride_facts (.quoted _ hot)
    · rw [if_neg (by simp), show [34, ot x, 34] = [34] ++ ([ot x] ++ [34]) from rfl, told_app, told_app, told_sg hot]
      simp [toldL, a, b]
  · have : R = [92, ot x] := by rw [← hr]; rfl
    subst this
    refine ⟨[92, ot x], [92, ot x], ride_facts (.esc _ hot), ?_, ?_, by simp, by simp⟩
    · rw [if_neg (by simp)]; exact ride_facts (.esc _ hot)
    · rw [if_neg (by simp), show [92, ot x] = [92] ++ [ot x] from rfl, told_app, told_sg hot]
      simp [toldL, a, b]
  · have : R = [gr x] := by rw [← hr]; rfl
    subst this
    refine ⟨[gr x], [(97 + le x).toNat], ride_facts (.one _ ⟨p1, p2, p3, p4⟩), ?_, ?_, by simp, by simp⟩
    · rw [if_pos rfl]; exact ride_facts (.one _ ⟨q1, q2, q3, q4⟩)
    · rw [if_pos rfl]; simp [toldL, pb, g2]
  · have : R = [92, 34] := by rw [← hr]; rfl
    subst this
    refine ⟨[92, 34], [92, 34], ride_facts .mark, ?_, ?_, by simp, by simp⟩
    · rw [if_neg (by simp)]; exact ride_facts .mark
    · rw [if_neg (by simp)]; simp [toldL, a, b]
  · have : R = qs l := by rw [← hr]; rfl
    subst this
    rcases (by omega : l = 0 ∨ l = 1) with e | e
    · subst e
      have : qs 0 = [34, 34] := rfl
      rw [this]
      refine ⟨[], [], ride_facts .two, ?_, ?_, by simp, by simp⟩
      · rw [if_neg (by simp)]; exact ride_facts .two
      · rw [if_neg (by simp)]; simp [toldL, a, b]
    · subst e
      have : qs 1 = [34] := rfl
      rw [this]
      refine ⟨[34], [34], lone_facts rfl, ?_, ?_, by simp, by simp⟩
      · rw [if_neg (by simpa using fun e => p2 e.symm)]; exact lone_facts rfl
      · rw [if_neg (by simpa using fun e => p2 e.symm)]; simp [toldL, a, b]
noncomputable def spell (x o m l : Int) : List Nat := rd x l ++ bk (pA x + o) ++ [un x] ++ bk (pB x + o * m) ++ [sg x]
noncomputable def plain (x o m l : Int) : List Nat := sm x l ++ bk (pA x + o + (pB x + o * m)) ++ [sg x]
structure CellOk (x o m l : Int) (s p : List Nat) : Prop where
  lS : (spell x o m l).length ≤ 12
  lP : (plain x o m l).length ≤ 12
  ls : s.length ≤ 12
  lp : p.length ≤ 12
  told : toldL (spell x o m l) = plain x o m l
  gS : GoodC l (spell x o m l) s
  gP : GoodC l (plain x o m l) p
  rs : rowOf s = if o = 1 ∧ m = 1 then [] else [sg x]
  rp : rowOf p = if o = 1 ∧ m = 0 then [] else [sg x]
theorem cell_ok (x o m l : Int) (ho : 0 ≤ o ∧ o ≤ 1) (hm : 0 ≤ m ∧ m ≤ 1) (hl : 0 ≤ l ∧ l ≤ 1) : ∃ s p, CellOk x o m l s p := by
  obtain ⟨R', Q', ⟨r1, r2⟩, ⟨q1, q2⟩, ht, hR, hQ⟩ := ride_all x l hl
  have hsg := (sg_cases (x := x)).1
  have hu := List.all_eq_true.mp signs_b1 _ (un_mem (x := x))
  simp only [Bool.and_eq_true, decide_eq_true_eq] at hu
  have hU : Sign (un x) := ⟨hu.1.1.1, hu.1.1.2, hu.1.2, hu.2⟩
  have hA := pA_range (x := x)
  have hB := pB_range (x := x)
  have hBe : pB x = 0 ∨ pB x = 2 := by unfold pB; split <;> simp
  have hAe : (pA x = 0 ∨ pA x = 2) ∧ pA x + pB x ≤ 2 := by
    unfold pA pB
    split <;> split <;> omega
  have hom : o * m = if o = 1 ∧ m = 1 then 1 else 0 := by
    rcases (by omega : o = 0 ∨ o = 1) with rfl | rfl <;> rcases (by omega : m = 0 ∨ m = 1) with rfl | rfl <;> simp
  have eS : spell x o m l = rd x l ++ body (pA x + o).toNat (pB x + o * m).toNat (un x) (sg x) := by
    simp [spell, body, bk_is]
  have eP : plain x o m l = sm x l ++ tail (pA x + o + (pB x + o * m)).toNat (sg x) := by
    simp [plain, tail, bk_is]
  have om01 : 0 ≤ o * m ∧ o * m ≤ 1 := by rw [hom]; split <;> omega
  obtain ⟨b1, b2, b3⟩ := body_facts (a := (pA x + o).toNat) (b := (pB x + o * m).toNat) (by omega) (by omega) hU hsg
  obtain ⟨t1, t2, t3⟩ := tail_facts (c := (pA x + o + (pB x + o * m)).toNat) (by omega) hsg
  have lrd := rd_len (x := x) hl.1
  have lsm := sm_len (x := x) hl.1
  have lb : (body (pA x + o).toNat (pB x + o * m).toNat (un x) (sg x)).length ≤ 8 := by simp [body]; omega
  have lt : (tail (pA x + o + (pB x + o * m)).toNat (sg x)).length ≤ 8 := by simp [tail]; omega
  refine ⟨_, _, ⟨?_, ?_, ?_, ?_, ?_, by rw [eS]; exact good_app r1 b1 b2, by rw [eP]; exact good_app q1 t1 t2, ?_, ?_⟩⟩
  · rw [eS, List.length_append]; omega
  · rw [eP, List.length_append]; omega
  · rw [List.length_append]; omega
  · rw [List.length_append]; omega
  · unfold spell plain
    rw [told_app, told_app, told_app, told_app, ht, bk_is, bk_is, bk_is, told_92, told_92, told_sg hsg]
    have : toldL [un x] = [] := by
      have hb : b1b (un x) = true := List.any_eq_true.mpr ⟨un x, un_mem, by simp⟩
      simp [toldL, hb]
    rw [this, List.append_nil]
    simp only [List.append_assoc]
    congr 1
    rw [← List.append_assoc, List.replicate_append_replicate]
    congr 2
    omega
  · rw [rowOf_app r1.es, r2, b3, List.nil_append]
    split <;> rename_i h1 <;> split <;> rename_i h2 <;> first | rfl | (exfalso; rw [hom] at h1; simp only [h2] at h1; simp at h1; omega)
  · rw [rowOf_app q1.es, q2, t3, List.nil_append]
    split <;> rename_i h1 <;> split <;> rename_i h2 <;> first | rfl | skip
    all_goals exfalso
    all_goals rcases (by omega : o = 0 ∨ o = 1) with rfl | rfl <;> rcases (by omega : m = 0 ∨ m = 1) with rfl | rfl <;> simp at h1 h2 <;> omega
end Mine.H
end
section
open PySem PySem.Calls PyProof.Rows PySem.W
set_option maxRecDepth 100000
set_option maxHeartbeats 4000000
namespace Mine.H
theorem strip_cons {S s T : List Nat} (g : GoodC 0 S s) : stripF (S ++ T) = s ++ stripF T := by
  rw [strip_scan, strip_scan, uU_app S T false g.e, scan_app]
  have hv : scan ([], none) (uU false S) = (s, none) := Prod.ext g.st (g.op rfl)
  rw [hv]
  have := scan_shift s (uU false T) [] none
  simp only [List.append_nil, Option.map_none] at this
  rw [this]
theorem strip_last {l : Int} {S s : List Nat} (g : GoodC l S s) : stripF S = s := by rw [strip_scan]; exact g.st
theorem six_strip {S0 S1 S2 S3 S4 S5 s0 s1 s2 s3 s4 s5 : List Nat} (g0 : GoodC 0 S0 s0) (g1 : GoodC 0 S1 s1) (g2 : GoodC 0 S2 s2) (g3 : GoodC 0 S3 s3) (g4 : GoodC 0 S4 s4) (g5 : GoodC 1 S5 s5) :
    stripF [S0, S1, S2, S3, S4, S5].flatten = [s0, s1, s2, s3, s4, s5].flatten := by
  simp only [List.flatten_cons, List.flatten_nil, List.append_nil]
  rw [strip_cons g0, strip_cons g1, strip_cons g2, strip_cons g3, strip_cons g4, strip_last g5]
theorem six_row {S0 S1 S2 S3 S4 S5 s0 s1 s2 s3 s4 s5 : List Nat} (g0 : GoodC 0 S0 s0) (g1 : GoodC 0 S1 s1) (g2 : GoodC 0 S2 s2) (g3 : GoodC 0 S3 s3) (g4 : GoodC 0 S4 s4) (g5 : GoodC 1 S5 s5) :
    rowF [S0, S1, S2, S3, S4, S5].flatten = [rowOf s0, rowOf s1, rowOf s2, rowOf s3, rowOf s4, rowOf s5].flatten := by
  rw [row_is, six_strip g0 g1 g2 g3 g4 g5]
  simp only [List.flatten_cons, List.flatten_nil, List.append_nil]
  rw [rowOf_app g0.es, rowOf_app g1.es, rowOf_app g2.es, rowOf_app g3.es, rowOf_app g4.es]
theorem six_told {S0 S1 S2 S3 S4 S5 : List Nat} : toldL [S0, S1, S2, S3, S4, S5].flatten = [toldL S0, toldL S1, toldL S2, toldL S3, toldL S4, toldL S5].flatten := by
  simp only [List.flatten_cons, List.flatten_nil, List.append_nil, told_app]
noncomputable def at5 (s : Int) (k : Nat) : Int := if (k : Int) = s then 1 else 0
noncomputable def sixL (a b c d e f : Nat) : List Nat := [a, b, c, d, e, f]
theorem miss {s m t : Int} (hs : 0 ≤ s ∧ s ≤ 5) {a b c d e f : Nat} :
    [if at5 s 0 = 1 ∧ m = t then [] else [a], if at5 s 1 = 1 ∧ m = t then [] else [b], if at5 s 2 = 1 ∧ m = t then [] else [c], if at5 s 3 = 1 ∧ m = t then [] else [d], if at5 s 4 = 1 ∧ m = t then [] else [e], if at5 s 5 = 1 ∧ m = t then [] else [f]].flatten =
      if m = t then (sixL a b c d e f).eraseIdx s.toNat else sixL a b c d e f := by
  have hs' : s = 0 ∨ s = 1 ∨ s = 2 ∨ s = 3 ∨ s = 4 ∨ s = 5 := by omega
  by_cases h : m = t
  · subst h
    simp only [and_true, if_true]
    rcases hs' with rfl | rfl | rfl | rfl | rfl | rfl <;> rfl
  · simp only [h, and_false, if_false]
    rfl
theorem eqV_items : ∀ (l : List (Nat × List Nat)), eqLs (eqV 5) (l.map itW) (l.map itW) = some true
  | [] => rfl
  | x :: l => by
    have h : eqV 5 (itW x) (itW x) = some true := by
      show some (decide ((x.1 : Int) = x.1) && (decide (x.2 = x.2) && true)) = _
      rw [decide_eq_true rfl, decide_eq_true rfl]; rfl
    show ((eqV 5 (itW x) (itW x)).bind fun a => (eqLs (eqV 5) (l.map itW) (l.map itW)).map fun b => a && b) = _
    rw [h, eqV_items l]; rfl
theorem ne_items (l : List (Nat × List Nat)) : cmpV .NotEq (.lst (l.map itW)) (.lst (l.map itW)) = some false := by
  show (eqV 6 (.lst (l.map itW)) (.lst (l.map itW))).map (!·) = _
  have : eqV 6 (.lst (l.map itW)) (.lst (l.map itW)) = eqLs (eqV 5) (l.map itW) (l.map itW) := rfl
  rw [this, eqV_items]; rfl
theorem ne_strs {a b : List Nat} : cmpV .NotEq (.str a) (.str b) = some (!decide (a = b)) := rfl
end Mine.H
end
section
open PySem PySem.Calls PyProof.Rows PySem.W
set_option maxRecDepth 100000
set_option maxHeartbeats 4000000
namespace Mine.H
section
variable {G : Prog} {n : Nat} {c : Cx} {ρ : Rho}
theorem itE_range {target : Expr} {args : List Expr} {p q : Pos} (h0 : find ρ (Str.ofString "range") = Option.none) (h1 : isGl c (Str.ofString "range") = true) {t : Bool} {vs l : List V} (ha : evL (lvl G n) c ρ args = some (t, vs)) (hr : rangeV vs = some l) :
    itE (lvl G n) c ρ target (.Call (.Name (Str.ofString "range") p) args [] q) = some l := by
  show (if (isGl c (Str.ofString "range") && (find ρ (Str.ofString "range")).isNone) = true then (evL (lvl G n) c ρ args).bind fun p => rangeV p.2 else Option.none) = _
  rw [h0, h1, ha]; exact hr
theorem itE_lst {target e : Expr} {l : List V} (hs : isSet e = false) (hc : callN e = Option.none) (h : (lvl G n).E c ρ e = some (false, .lst l)) : itE (lvl G n) c ρ target e = some l := by
  unfold itE
  rw [hs, hc, pure_of h]; rfl
theorem itE_str {target e : Expr} {l : List Nat} (hs : isSet e = false) (hc : callN e = Option.none) (h : (lvl G n).E c ρ e = some (false, .str l)) : itE (lvl G n) c ρ target e = some (l.map fun k => V.str [k]) := by
  unfold itE
  rw [hs, hc, pure_of h]; rfl
theorem v_comp {elt target iter : Expr} {ifs : List Expr} {sc : Scope} {p : Pos} {α : Type} {f : α → V} {b : α → Bool} {y : α → V} {ρv : α → Rho} {l : List α} {ys : List V} (h : compOk c sc target = true) (hi : itE (lvl G n) c ρ target iter = some (l.map f)) (hl : l.length ≤ 100000) (hy : ys = (l.filter b).map y)
    (hx : ∀ x ∈ l, bindT (compCx sc) (compRho sc ρ) target (f x) = some (ρv x) ∧ ifsE (lvl G n) (compCx sc) (ρv x) ifs = some (b x) ∧ (b x = true → (lvl G n).E (compCx sc) (ρv x) elt = some (false, y x))) : (lvl G (n + 1)).E c ρ (.ListComp elt [⟨target, iter, ifs, 0⟩] sc p) = some (false, .lst ys) :=
  hy ▸ E_comp h hi (by rw [List.length_map]; exact hl) (compL_all l hx)
theorem filter_true {α : Type} (l : List α) : l.filter (fun _ => true) = l := by induction l <;> simp_all
end
noncomputable def numsV (n0 n1 n2 n3 n4 n5 n6 : Int) : V := .lst [.int n0, .int n1, .int n2, .int n3, .int n4, .int n5, .int n6]
theorem ok17_0 : okK c17 (Str.ofString "spot") = true := by kernel_rfl
theorem mu17_0 : c17.mu.contains (Str.ofString "spot") = false := by kernel_rfl
theorem ok17_1 : okK c17 (Str.ofString "more") = true := by kernel_rfl
theorem mu17_1 : c17.mu.contains (Str.ofString "more") = false := by kernel_rfl
theorem ok17_2 : okK c17 (Str.ofString "cells") = true := by kernel_rfl
theorem mu17_2 : c17.mu.contains (Str.ofString "cells") = false := by kernel_rfl
theorem ok17_3 : okK c17 (Str.ofString "text") = true := by kernel_rfl
theorem mu17_3 : c17.mu.contains (Str.ofString "text") = false := by kernel_rfl
theorem ok17_4 : okK c17 (Str.ofString "told") = true := by kernel_rfl
theorem mu17_4 : c17.mu.contains (Str.ofString "told") = false := by kernel_rfl
theorem ok17_5 : okK c17 (Str.ofString "faces") = true := by kernel_rfl
theorem mu17_5 : c17.mu.contains (Str.ofString "faces") = false := by kernel_rfl
theorem ok17_6 : okK c17 (Str.ofString "short") = true := by kernel_rfl
theorem mu17_6 : c17.mu.contains (Str.ofString "short") = false := by kernel_rfl
theorem ok17_7 : okK c17 (Str.ofString "far") = true := by kernel_rfl
theorem mu17_7 : c17.mu.contains (Str.ofString "far") = false := by kernel_rfl
noncomputable def lawS (k : Nat) : Stmt := F17.val.body.getD k (.Pass default)
theorem s1 (n : Nat) (n0 n1 n2 n3 n4 n5 n6 : Int) (sc : V) (h0 : 0 ≤ n6) (h1 : n6 < 1000000) : execS (lvl GP (n + 22)) c17 [(nm "numbers", .val (numsV n0 n1 n2 n3 n4 n5 n6)), (nm "script", .val sc)] (lawS 1) =
    some (.next, [(Str.ofString "more", .val (.int ((n6.fdiv 6).fmod 2))), (Str.ofString "spot", .val (.int (n6.fmod 6))), (Str.ofString "numbers", .val (numsV n0 n1 n2 n3 n4 n5 n6)), (Str.ofString "script", .val sc)]) := by
  have j0 := ok17_0
  have j1 := ok17_1
  have u0 := mu17_0
  have u1 := mu17_1
  have e1 : subV (numsV n0 n1 n2 n3 n4 n5 n6) (.int 6) = some (.int n6) := rfl
  have e2 : binV .FloorDiv (.int n6) (.int 6) = some (.int (n6.fdiv 6)) := bin_div ⟨by omega, ⟨by omega, by omega⟩, by omega, by omega⟩
  clear h0 h1
  have z : execS (lvl GP (n + 22)) c17 [(Str.ofString "numbers", .val (numsV n0 n1 n2 n3 n4 n5 n6)), (Str.ofString "script", .val sc)] (lawS 1) = some (.next, upd (upd [(Str.ofString "numbers", .val (numsV n0 n1 n2 n3 n4 n5 n6)), (Str.ofString "script", .val sc)] (Str.ofString "spot") (.val (.int (n6.fmod 6)))) (Str.ofString "more") (.val (.int ((n6.fdiv 6).fmod 2)))) := by
    dsimp only [lawS, F17, List.getD, List.getElem?_cons_succ, List.getElem?_cons_zero, Option.getD]
    walk_at "ev"
  exact z.trans (by kernel_rfl)
noncomputable def laK (k : Nat) : Int := if k = 5 then 1 else 0
theorem s2 (n : Nat) (n0 n1 n2 n3 n4 n5 n6 s m : Int) (sc : V) (hn : ∀ x ∈ [n0, n1, n2, n3, n4, n5, n6], 0 ≤ x ∧ x < 1000000) (hm : 0 ≤ m ∧ m ≤ 1) :
    execS (lvl GP (n + 22)) c17 [(Str.ofString "more", .val (.int m)), (Str.ofString "spot", .val (.int s)), (Str.ofString "numbers", .val (numsV n0 n1 n2 n3 n4 n5 n6)), (Str.ofString "script", .val sc)] (lawS 2) =
    some (.next, [(Str.ofString "cells", .val (.lst ([0, 1, 2, 3, 4, 5].map fun (k : Nat) => V.tup [.str (spell ([n0, n1, n2, n3, n4, n5].getD k 0) (at5 s k) m (laK k)), .str (plain ([n0, n1, n2, n3, n4, n5].getD k 0) (at5 s k) m (laK k))]))),
      (Str.ofString "more", .val (.int m)), (Str.ofString "spot", .val (.int s)), (Str.ofString "numbers", .val (numsV n0 n1 n2 n3 n4 n5 n6)), (Str.ofString "script", .val sc)]) := by
  have j2 := ok17_2
  have u2 := mu17_2
  have z : execS (lvl GP (n + 22)) c17 [(Str.ofString "more", .val (.int m)), (Str.ofString "spot", .val (.int s)), (Str.ofString "numbers", .val (numsV n0 n1 n2 n3 n4 n5 n6)), (Str.ofString "script", .val sc)] (lawS 2) = some (.next, upd [(Str.ofString "more", .val (.int m)), (Str.ofString "spot", .val (.int s)), (Str.ofString "numbers", .val (numsV n0 n1 n2 n3 n4 n5 n6)), (Str.ofString "script", .val sc)] (Str.ofString "cells") (.val (.lst ([0, 1, 2, 3, 4, 5].map fun (k : Nat) => V.tup [.str (spell ([n0, n1, n2, n3, n4, n5].getD k 0) (at5 s k) m (laK k)), .str (plain ([n0, n1, n2, n3, n4, n5].getD k 0) (at5 s k) m (laK k))])))) := by
    dsimp only [lawS, F17, List.getD, List.getElem?_cons_succ, List.getElem?_cons_zero, Option.getD]
    apply s_asg
    · rfl
    · exact j2
    · exact u2
    apply v_comp (l := [0, 1, 2, 3, 4, 5]) (f := fun (k : Nat) => V.int (k : Int)) (b := fun _ => true) (ρv := fun k => upd (compRho _ _) (Str.ofString "k") (.val (.int (k : Int))))
    · kernel_rfl
    · exact itE_range (t := false) (vs := [.int 6]) (by walk_at "ev") (by kernel_rfl) (by walk_at "ev") rfl
    · decide
    · rfl
    intro x hx
    have hx6 : x < 6 := by simp at hx; omega
    refine ⟨b_name (by kernel_rfl), rfl, fun _ => ?_⟩
    have hs : subV (numsV n0 n1 n2 n3 n4 n5 n6) (.int (x : Int)) = some (.int ([n0, n1, n2, n3, n4, n5].getD x 0)) := by
      rcases (by omega : x = 0 ∨ x = 1 ∨ x = 2 ∨ x = 3 ∨ x = 4 ∨ x = 5) with rfl | rfl | rfl | rfl | rfl | rfl <;> rfl
    have hmem : [n0, n1, n2, n3, n4, n5].getD x 0 ∈ [n0, n1, n2, n3, n4, n5, n6] := by
      rcases (by omega : x = 0 ∨ x = 1 ∨ x = 2 ∨ x = 3 ∨ x = 4 ∨ x = 5) with rfl | rfl | rfl | rfl | rfl | rfl <;> simp
    have hl : biV (Str.ofString "int") [.bool (decide ((x : Int) = 5))] = some (.int (laK x)) := by
      rcases (by omega : x = 0 ∨ x = 1 ∨ x = 2 ∨ x = 3 ∨ x = 4 ∨ x = 5) with rfl | rfl | rfl | rfl | rfl | rfl <;> rfl
    have ho : biV (Str.ofString "int") [.bool (decide ((x : Int) = s))] = some (.int (at5 s x)) := by
      show some (V.int (if decide ((x : Int) = s) = true then 1 else 0)) = _
      unfold at5; simp only [decide_eq_true_eq]
    have hc := cell_F (n + 7) ([n0, n1, n2, n3, n4, n5].getD x 0) (at5 s x) m (laK x) (hn _ hmem).1 (hn _ hmem).2 (by unfold at5; split <;> omega) hm (by unfold laK; split <;> omega)
    show (lvl GP (n + 21)).E _ _ _ = some (false, V.tup [.str (spell ([n0, n1, n2, n3, n4, n5].getD x 0) (at5 s x) m (laK x)), .str (plain ([n0, n1, n2, n3, n4, n5].getD x 0) (at5 s x) m (laK x))])
    generalize [n0, n1, n2, n3, n4, n5].getD x 0 = nx at hs hc ⊢
    clear hmem hn hm hx hx6 j2 u2
    have c1 : cmpV .Eq (.int (x : Int)) (.int s) = some (decide ((x : Int) = s)) := rfl
    have c2 : cmpV .Eq (.int (x : Int)) (.int 5) = some (decide ((x : Int) = 5)) := rfl
    refine E_fn (vs := [.int nx, .int (at5 s x), .int m, .int (laK x)]) ?f0 (by kernel_rfl) (by kernel_rfl) (by kernel_rfl) ?ev hc
    case f0 => exact fu_miss (by kernel_rfl) (by kernel_rfl)
    case ev =>
      generalize hρ : compRho _ _ = ρc
      generalize hcx : compCx _ = cc
      have f1 : find ρc (Str.ofString "numbers") = some (.val (numsV n0 n1 n2 n3 n4 n5 n6)) := by rw [← hρ]; kernel_rfl
      have f2 : find ρc (Str.ofString "spot") = some (.val (.int s)) := by rw [← hρ]; kernel_rfl
      have f3 : find ρc (Str.ofString "more") = some (.val (.int m)) := by rw [← hρ]; kernel_rfl
      have f5 : find ρc (Str.ofString "int") = none := by rw [← hρ]; kernel_rfl
      have o3 : isGl cc (Str.ofString "int") = true := by rw [← hcx]; kernel_rfl
      clear hρ hcx hc
      walk_at "ev"
  exact z.trans (by kernel_rfl)
end Mine.H
end
section
open PySem PySem.Calls PyProof.Rows PySem.W
set_option maxRecDepth 100000
set_option maxHeartbeats 4000000
namespace Mine.H
noncomputable def pairV (p : List Nat × List Nat) : V := .tup [.str p.1, .str p.2]
theorem filter_map {α β : Type} {l : List α} {y : α → β} : l.map y = (l.filter fun _ => true).map y := by rw [filter_true]
theorem s3 (n : Nat) (C : List (List Nat × List Nat)) (m s nu sc : V) (hC : C.length ≤ 1000) (hl : (C.map (·.1)).flatten.length ≤ 90000) :
    execS (lvl GP (n + 22)) c17 [(Str.ofString "cells", .val (.lst (C.map pairV))), (Str.ofString "more", .val m), (Str.ofString "spot", .val s), (Str.ofString "numbers", .val nu), (Str.ofString "script", .val sc)] (lawS 3) =
    some (.next, [(Str.ofString "text", .val (.str (C.map (·.1)).flatten)), (Str.ofString "cells", .val (.lst (C.map pairV))), (Str.ofString "more", .val m), (Str.ofString "spot", .val s), (Str.ofString "numbers", .val nu), (Str.ofString "script", .val sc)]) := by
  have j := ok17_3
  have u := mu17_3
  dsimp only [lawS, F17, List.getD, List.getElem?_cons_succ, List.getElem?_cons_zero, Option.getD]
  apply Eq.trans
  · skip
    apply s_asg (v := .str (C.map (·.1)).flatten)
    · rfl
    · exact j
    · exact u
    apply E_join (u := false) (Q := C.map (·.1))
    · rfl
    · rfl
    · walk_at "ev"
    · apply evL_of_one (hs := rfl)
      apply v_comp (l := C) (f := pairV) (b := fun _ => true) (y := fun p => .str p.1) (ρv := fun p => upd (upd (compRho _ _) (Str.ofString "spelled") (.val (.str p.1))) (Str.ofString "plain") (.val (.str p.2)))
      · kernel_rfl
      · exact itE_lst rfl rfl (by walk_at "ev")
      · omega
      · rw [List.map_map]; exact filter_map
      · intro x _
        exact ⟨b_tup2 (by kernel_rfl) (by kernel_rfl), rfl, fun _ => by walk_at "ev"⟩
    · exact hl
  · kernel_rfl
theorem s4 (n : Nat) (T : List Nat) (hT : T.length ≤ 150) (ce m s nu sc : V) :
    execS (lvl GP (n + 22)) c17 [(Str.ofString "text", .val (.str T)), (Str.ofString "cells", .val ce), (Str.ofString "more", .val m), (Str.ofString "spot", .val s), (Str.ofString "numbers", .val nu), (Str.ofString "script", .val sc)] (lawS 4) =
    some (.next, [(Str.ofString "text", .val (.str T)), (Str.ofString "cells", .val ce), (Str.ofString "more", .val m), (Str.ofString "spot", .val s), (Str.ofString "numbers", .val nu), (Str.ofString "script", .val sc)]) := by
  have g1 : isGl c17 (Str.ofString "_iter_escaped_chars") = true := by kernel_rfl
  have g2 : isGl c17 (Str.ofString "_law_units") = true := by kernel_rfl
  have hb : binV .Add (.str T) (.str [92]) = some (.str (T ++ [92])) := bin_cat (by rw [List.length_singleton]; omega)
  have hl : (T ++ [92]).length ≤ 200 := by rw [List.length_append, List.length_singleton]; omega
  have hi := it_len (T ++ [92]) 0 false
  have hU := units_F (n + 8) (T ++ [92]) hl
  rw [esc_it _ _ _ (by simp)] at hU
  have he := esc_it (T ++ [92]) 0 false (by simp)
  dsimp only [lawS, F17, List.getD, List.getElem?_cons_succ, List.getElem?_cons_zero, Option.getD]
  apply s_iff (t := false)
  · apply v_cmp
    · rfl
    · rfl
    · apply v_comp (l := itL 0 false (T ++ [92])) (f := itW) (b := fun _ => true) (y := itW) (ρv := fun p => upd (compRho _ _) (Str.ofString "pair") (.val (itW p)))
      · kernel_rfl
      · rw [← he]
        exact itE_esc (t := false) (s := T ++ [92]) (by walk_at "ev") g1 rfl (by walk_at "ev") (by omega)
      · omega
      · exact filter_map
      · intro x _
        exact ⟨b_name (by kernel_rfl), rfl, fun _ => by walk_at "ev"⟩
    · exact E_fn (vs := [.str (T ++ [92])]) (by walk_at "ev") g2 (by kernel_rfl) (by kernel_rfl) (by walk_at "ev") hU
    · exact ne_items _
  · exact x_nil
theorem s5 (n : Nat) (T : List Nat) (hT : T.length ≤ 150) (hl : (toldL T).length ≤ 90000) (ce m s nu sc : V) :
    execS (lvl GP (n + 22)) c17 [(Str.ofString "text", .val (.str T)), (Str.ofString "cells", .val ce), (Str.ofString "more", .val m), (Str.ofString "spot", .val s), (Str.ofString "numbers", .val nu), (Str.ofString "script", .val sc)] (lawS 5) =
    some (.next, [(Str.ofString "told", .val (.str (toldL T))), (Str.ofString "text", .val (.str T)), (Str.ofString "cells", .val ce), (Str.ofString "more", .val m), (Str.ofString "spot", .val s), (Str.ofString "numbers", .val nu), (Str.ofString "script", .val sc)]) := by
  have j := ok17_4
  have u := mu17_4
  dsimp only [lawS, F17, List.getD, List.getElem?_cons_succ, List.getElem?_cons_zero, Option.getD]
  apply Eq.trans
  · skip
    apply s_asg (v := .str ((T.filter fun k => !b1b k).map b3f).flatten)
    · rfl
    · exact j
    · exact u
    apply E_join (u := false) (Q := (T.filter fun k => !b1b k).map b3f)
    · rfl
    · rfl
    · walk_at "ev"
    · apply evL_of_one (hs := rfl)
      apply v_comp (l := T) (f := fun (k : Nat) => V.str [k]) (b := fun k => !b1b k) (y := fun k => .str (b3f k)) (ρv := fun k => upd (compRho _ _) (Str.ofString "sign") (.val (.str [k])))
      · kernel_rfl
      · exact itE_str rfl rfl (by walk_at "ev")
      · omega
      · rw [List.map_map]; rfl
      · intro x _
        refine ⟨b_name (by kernel_rfl), ifs_one (t := false) ?_, fun _ => ?_⟩
        · apply v_cmp
          · rfl
          · rfl
          · exact E_fn (vs := [.str [x]]) (fu_miss (by kernel_rfl) (by kernel_rfl)) (by kernel_rfl) (by kernel_rfl) (by kernel_rfl) (l_cons rfl (v_n fu_hit) l_nil) (b1_F (n + 10) x)
          · exact v_bool
          · show cmpV .Is (.bool (b1b x)) (.bool false) = _
            cases b1b x <;> rfl
        · exact E_fn (vs := [.str [x]]) (fu_miss (by kernel_rfl) (by kernel_rfl)) (by kernel_rfl) (by kernel_rfl) (by kernel_rfl) (l_cons rfl (v_n fu_hit) l_nil) (b3_F (n + 11) x)
    · exact hl
  · kernel_rfl
theorem s6 (n : Nat) (C : List (List Nat × List Nat)) (te m s nu sc : V) (hC : C.length ≤ 1000) (hl : (C.map (·.2)).flatten.length ≤ 90000) :
    execS (lvl GP (n + 22)) c17 [(Str.ofString "told", .val (.str (C.map (·.2)).flatten)), (Str.ofString "text", .val te), (Str.ofString "cells", .val (.lst (C.map pairV))), (Str.ofString "more", .val m), (Str.ofString "spot", .val s), (Str.ofString "numbers", .val nu), (Str.ofString "script", .val sc)] (lawS 6) =
    some (.next, [(Str.ofString "told", .val (.str (C.map (·.2)).flatten)), (Str.ofString "text", .val te), (Str.ofString "cells", .val (.lst (C.map pairV))), (Str.ofString "more", .val m), (Str.ofString "spot", .val s), (Str.ofString "numbers", .val nu), (Str.ofString "script", .val sc)]) := by
  dsimp only [lawS, F17, List.getD, List.getElem?_cons_succ, List.getElem?_cons_zero, Option.getD]
  apply s_iff (t := false)
  · apply v_cmp
    · rfl
    · rfl
    · walk_at "ev"
    · apply E_join (u := false) (Q := C.map (·.2))
      · rfl
      · rfl
      · walk_at "ev"
      · apply evL_of_one (hs := rfl)
        apply v_comp (l := C) (f := pairV) (b := fun _ => true) (y := fun p => .str p.2) (ρv := fun p => upd (upd (compRho _ _) (Str.ofString "spelled") (.val (.str p.1))) (Str.ofString "plain") (.val (.str p.2)))
        · kernel_rfl
        · exact itE_lst rfl rfl (by walk_at "ev")
        · omega
        · rw [List.map_map]; exact filter_map
        · intro x _
          exact ⟨b_tup2 (by kernel_rfl) (by kernel_rfl), rfl, fun _ => by walk_at "ev"⟩
      · exact hl
    · rw [ne_strs, decide_eq_true rfl]; rfl
  · exact x_nil
theorem s7 (n : Nat) (T U : List Nat) (hT : T.length ≤ 200) (hT' : (stripF T).length ≤ 200) (hU : U.length ≤ 200) (hU' : (stripF U).length ≤ 200) (ce m s nu sc : V) :
    execS (lvl GP (n + 22)) c17 [(Str.ofString "told", .val (.str U)), (Str.ofString "text", .val (.str T)), (Str.ofString "cells", .val ce), (Str.ofString "more", .val m), (Str.ofString "spot", .val s), (Str.ofString "numbers", .val nu), (Str.ofString "script", .val sc)] (lawS 7) =
    some (.next, [(Str.ofString "faces", .val (.lst [.str (rowF T), .str (rowF U)])), (Str.ofString "told", .val (.str U)), (Str.ofString "text", .val (.str T)), (Str.ofString "cells", .val ce), (Str.ofString "more", .val m), (Str.ofString "spot", .val s), (Str.ofString "numbers", .val nu), (Str.ofString "script", .val sc)]) := by
  have j := ok17_5
  have u := mu17_5
  have g2 : isGl c17 (Str.ofString "_law_row") = true := by kernel_rfl
  dsimp only [lawS, F17, List.getD, List.getElem?_cons_succ, List.getElem?_cons_zero, Option.getD]
  apply Eq.trans
  · skip
    apply s_asg (v := .lst [.str (rowF T), .str (rowF U)])
    · rfl
    · exact j
    · exact u
    apply v_list (h2 := rfl)
    apply l_cons (t := false)
    · rfl
    · exact E_fn (vs := [.str T]) (by walk_at "ev") g2 (by kernel_rfl) (by kernel_rfl) (by walk_at "ev") (row_F n T hT hT')
    apply l_own
    · rfl
    · exact E_fn (vs := [.str U]) (by walk_at "ev") g2 (by kernel_rfl) (by kernel_rfl) (by walk_at "ev") (row_F n U hU hU')
  · kernel_rfl
theorem s8 (n : Nat) (A B : List Nat) (to te ce s nu sc : V) (m : Int) (hm : m = 0 ∨ m = 1) :
    execS (lvl GP (n + 22)) c17 [(Str.ofString "faces", .val (.lst [.str A, .str B])), (Str.ofString "told", .val to), (Str.ofString "text", .val te), (Str.ofString "cells", .val ce), (Str.ofString "more", .val (.int m)), (Str.ofString "spot", .val s), (Str.ofString "numbers", .val nu), (Str.ofString "script", .val sc)] (lawS 8) =
    some (.next, [(Str.ofString "short", .val (.str (if m = 1 then A else B))), (Str.ofString "faces", .val (.lst [.str A, .str B])), (Str.ofString "told", .val to), (Str.ofString "text", .val te), (Str.ofString "cells", .val ce), (Str.ofString "more", .val (.int m)), (Str.ofString "spot", .val s), (Str.ofString "numbers", .val nu), (Str.ofString "script", .val sc)]) := by
  have j := ok17_6
  have u := mu17_6
  have hs : subV (.lst [.str A, .str B]) (.int (1 - m)) = some (.str (if m = 1 then A else B)) := by rcases hm with rfl | rfl <;> rfl
  clear hm
  dsimp only [lawS, F17, List.getD, List.getElem?_cons_succ, List.getElem?_cons_zero, Option.getD]
  apply Eq.trans
  · skip
    walk_at "ev"
  · kernel_rfl
end Mine.H
end
section
open PySem PySem.Calls PyProof.Rows PySem.W
set_option maxRecDepth 100000
set_option maxHeartbeats 4000000
namespace Mine.H
theorem lead_ex {r : List Nat} {a : Int} (h : leadLvl r = some a) : ∃ ns fs, (lvl GP 35).F (nm "_law_lead") [.str r] = some (.obj ns fs) ∧ ns.contains (nm "indent_level") = false ∧ (lvl GP 36).M (nm "indent_level") (.obj ns fs) [.int 1] = some (.int a) := by
  unfold leadLvl at h
  generalize (lvl GP 35).F (nm "_law_lead") [.str r] = x at h ⊢
  generalize lvl GP 36 = L at h ⊢
  match x, h with
  | none, h => cases h
  | some (.obj ns fs), h =>
    simp only [Option.bind_some] at h
    refine ⟨ns, fs, rfl, ?_⟩
    cases hc : ns.contains (nm "indent_level") with
    | true => rw [hc, if_pos rfl] at h; cases h
    | false =>
      rw [hc, if_neg (by simp)] at h
      refine ⟨rfl, ?_⟩
      generalize L.M (nm "indent_level") (.obj ns fs) [.int 1] = y at h ⊢
      match y, h with
      | some (.int i), h => injection h with h; rw [h]
  | some (.int _), h => cases h
  | some (.str _), h => cases h
  | some (.bool _), h => cases h
  | some (.lst _), h => cases h
  | some (.dct _), h => cases h
  | some (.tup _), h => cases h
  | some .none, h => cases h
theorem v_obj {G : Prog} {n : Nat} {c : Cx} {ρ : Rho} {o : Expr} {m : Str} {apos pos : Pos} {args : List Expr} {ns : List Str} {fs vs : List V} {v : V} (hp : (apos.endLine != pos.line || (decide (30 ≤ args.length) || bareCall o)) = false) (hd : dictAsk c ρ o m = false) (h1 : (lvl G n).E c ρ o = some (false, .obj ns fs)) (h2 : evL (lvl G n) c ρ args = some (false, vs)) (h3 : ns.contains m = false) (h4 : (lvl G n).M m (.obj ns fs) vs = some v) : (lvl G (n + 1)).E c ρ (.Call (.Attribute o m apos) args [] pos) = some (false, v) := by
  show ((if (apos.endLine != pos.line || (decide (30 ≤ args.length) || bareCall o)) = true then Option.none else if dictAsk c ρ o m = true then _ else mthE (lvl G n) c ρ o m args).map f0) = _
  rw [hp, hd]
  show (((lvl G n).E c ρ o).bind fun p => (evL (lvl G n) c ρ args).bind _).map f0 = _
  rw [h1, Option.bind_some, h2]
  show (if (false || (false || ns.contains m)) = true then Option.none else (lvl G n).M m (.obj ns fs) vs).map f0 = _
  rw [h3]
  show ((lvl G n).M m (.obj ns fs) vs).map f0 = _
  rw [h4]; rfl
theorem s9 (n : Nat) (A B sh : List Nat) (to te ce s nu sc : V) (m : Int) (hm : m = 0 ∨ m = 1) {ns fs a ns' fs' b}
    (h1 : (lvl GP (n + 18)).F (nm "_law_lead") [.str (if m = 1 then B else A)] = some (.obj ns fs)) (h2 : ns.contains (nm "indent_level") = false) (h3 : (lvl GP (n + 19)).M (nm "indent_level") (.obj ns fs) [.int 1] = some (.int a))
    (k1 : (lvl GP (n + 18)).F (nm "_law_lead") [.str sh] = some (.obj ns' fs')) (k2 : ns'.contains (nm "indent_level") = false) (k3 : (lvl GP (n + 19)).M (nm "indent_level") (.obj ns' fs') [.int 1] = some (.int b)) :
    execS (lvl GP (n + 22)) c17 [(Str.ofString "short", .val (.str sh)), (Str.ofString "faces", .val (.lst [.str A, .str B])), (Str.ofString "told", .val to), (Str.ofString "text", .val te), (Str.ofString "cells", .val ce), (Str.ofString "more", .val (.int m)), (Str.ofString "spot", .val s), (Str.ofString "numbers", .val nu), (Str.ofString "script", .val sc)] (lawS 9) =
    some (.next, (Str.ofString "far", .val (.int ((a - b).fmod 7))) :: [(Str.ofString "short", .val (.str sh)), (Str.ofString "faces", .val (.lst [.str A, .str B])), (Str.ofString "told", .val to), (Str.ofString "text", .val te), (Str.ofString "cells", .val ce), (Str.ofString "more", .val (.int m)), (Str.ofString "spot", .val s), (Str.ofString "numbers", .val nu), (Str.ofString "script", .val sc)]) := by
  have j := ok17_7
  have u := mu17_7
  have hs : subV (.lst [.str A, .str B]) (.int m) = some (.str (if m = 1 then B else A)) := by rcases hm with rfl | rfl <;> rfl
  have g1 : isGl c17 (Str.ofString "_law_lead") = true := by kernel_rfl
  dsimp only [lawS, F17, List.getD, List.getElem?_cons_succ, List.getElem?_cons_zero, Option.getD]
  apply Eq.trans
  · apply s_asg (v := .int ((a - b).fmod 7))
    · rfl
    · exact j
    · exact u
    apply v_bin
    · apply v_bin
      · apply v_obj (ns := ns) (fs := fs) (vs := [.int 1]) (v := .int a) (hp := rfl) (hd := rfl)
        · exact E_fn (vs := [.str (if m = 1 then B else A)]) (by walk_at "ev") g1 (by kernel_rfl) (by kernel_rfl) (by walk_at "ev") h1
        · walk_at "ev"
        · exact h2
        · exact h3
      · apply v_obj (ns := ns') (fs := fs') (vs := [.int 1]) (v := .int b) (hp := rfl) (hd := rfl)
        · exact E_fn (vs := [.str sh]) (by walk_at "ev") g1 (by kernel_rfl) (by kernel_rfl) (by walk_at "ev") k1
        · walk_at "ev"
        · exact k2
        · exact k3
      · exact bin_sub
    · exact v_int
    · exact bin_mod (by decide)
  · kernel_rfl
theorem lit_pair : (Str.ofString "()").cps.toList = [40, 41] := by decide +kernel
theorem sg_sub {x : Int} : subV (.str [40, 41]) (.int (x.fmod 2)) = some (.str [sg x]) := by
  have h0 : x.fmod 2 = 0 ∨ x.fmod 2 = 1 := by
    have h1 := Int.fmod_nonneg_of_pos x (b := 2) (by omega)
    have h2 := Int.fmod_lt_of_pos x (b := 2) (by omega)
    omega
  unfold sg
  rcases h0 with h | h <;> rw [h] <;> rfl
theorem s10 (n : Nat) (sh : List Nat) (far : Int) (n0 n1 n2 n3 n4 n5 n6 : Int) (fa to te ce m s sc : V)
    (h1 : (lvl GP (n + 20)).F (nm "_law_back") [.str sh, .int far] = some (.str [sg n0, sg n1, sg n2, sg n3, sg n4, sg n5])) :
    execS (lvl GP (n + 22)) c17 [(Str.ofString "far", .val (.int far)), (Str.ofString "short", .val (.str sh)), (Str.ofString "faces", .val fa), (Str.ofString "told", .val to), (Str.ofString "text", .val te), (Str.ofString "cells", .val ce), (Str.ofString "more", .val m), (Str.ofString "spot", .val s), (Str.ofString "numbers", .val (numsV n0 n1 n2 n3 n4 n5 n6)), (Str.ofString "script", .val sc)] (lawS 10) = some (.next, [(Str.ofString "far", .val (.int far)), (Str.ofString "short", .val (.str sh)), (Str.ofString "faces", .val fa), (Str.ofString "told", .val to), (Str.ofString "text", .val te), (Str.ofString "cells", .val ce), (Str.ofString "more", .val m), (Str.ofString "spot", .val s), (Str.ofString "numbers", .val (numsV n0 n1 n2 n3 n4 n5 n6)), (Str.ofString "script", .val sc)]) := by
  have g1 : isGl c17 (Str.ofString "_law_back") = true := by kernel_rfl
  have hs : sliceV (numsV n0 n1 n2 n3 n4 n5 n6) none (some (.int 6)) none = some (.lst ([n0, n1, n2, n3, n4, n5].map V.int)) := rfl
  dsimp only [lawS, F17, List.getD, List.getElem?_cons_succ, List.getElem?_cons_zero, Option.getD]
  apply s_iff (t := false)
  · apply v_cmp
    · rfl
    · rfl
    · exact E_fn (vs := [.str sh, .int far]) (by walk_at "ev") g1 (by kernel_rfl) (by kernel_rfl) (by walk_at "ev") h1
    · apply E_join (u := false) (Q := [n0, n1, n2, n3, n4, n5].map fun x => [sg x])
      · rfl
      · rfl
      · walk_at "ev"
      · apply evL_of_one (hs := rfl)
        apply v_comp (l := [n0, n1, n2, n3, n4, n5]) (f := V.int) (b := fun _ => true) (y := fun x => .str [sg x]) (ρv := fun x => upd (compRho _ _) (Str.ofString "number") (.val (.int x)))
        · kernel_rfl
        · exact itE_lst rfl rfl (by walk_at "ev")
        · exact Nat.le_of_ble_eq_true rfl
        · rfl
        · intro x _
          refine ⟨b_name (by kernel_rfl), rfl, fun _ => ?_⟩
          apply v_sub
          · rfl
          · exact v_str lit_pair
          · apply v_bin
            · exact v_n fu_hit
            · exact v_int
            · exact bin_mod (by decide)
          · exact sg_sub
      · exact Nat.le_of_ble_eq_true rfl
    · show some (!decide (_ = [sg n0, sg n1, sg n2, sg n3, sg n4, sg n5])) = some false
      rw [decide_eq_true rfl]; rfl
  · exact x_nil
theorem bits5 : bitsL 5 = [[40, 40, 40, 40, 40], [40, 40, 40, 40, 41], [40, 40, 40, 41, 40], [40, 40, 40, 41, 41], [40, 40, 41, 40, 40], [40, 40, 41, 40, 41], [40, 40, 41, 41, 40], [40, 40, 41, 41, 41], [40, 41, 40, 40, 40], [40, 41, 40, 40, 41], [40, 41, 40, 41, 40], [40, 41, 40, 41, 41], [40, 41, 41, 40, 40], [40, 41, 41, 40, 41], [40, 41, 41, 41, 40], [40, 41, 41, 41, 41], [41, 40, 40, 40, 40], [41, 40, 40, 40, 41], [41, 40, 40, 41, 40], [41, 40, 40, 41, 41], [41, 40, 41, 40, 40], [41, 40, 41, 40, 41], [41, 40, 41, 41, 40], [41, 40, 41, 41, 41], [41, 41, 40, 40, 40], [41, 41, 40, 40, 41], [41, 41, 40, 41, 40], [41, 41, 40, 41, 41], [41, 41, 41, 40, 40], [41, 41, 41, 40, 41], [41, 41, 41, 41, 40], [41, 41, 41, 41, 41]] := by kernel_rfl
theorem end_all : ∀ r ∈ bitsL 5, EndAt5 r := by
  intro r h
  rw [bits5] at h
  simp only [List.mem_cons, List.not_mem_nil, or_false] at h
  rcases h with rfl | rfl | rfl | rfl | rfl | rfl | rfl | rfl | rfl | rfl | rfl | rfl | rfl | rfl | rfl | rfl | rfl | rfl | rfl | rfl | rfl | rfl | rfl | rfl | rfl | rfl | rfl | rfl | rfl | rfl | rfl | rfl
  · exact end_00000
  · exact end_00001
  · exact end_00010
  · exact end_00011
  · exact end_00100
  · exact end_00101
  · exact end_00110
  · exact end_00111
  · exact end_01000
  · exact end_01001
  · exact end_01010
  · exact end_01011
  · exact end_01100
  · exact end_01101
  · exact end_01110
  · exact end_01111
  · exact end_10000
  · exact end_10001
  · exact end_10010
  · exact end_10011
  · exact end_10100
  · exact end_10101
  · exact end_10110
  · exact end_10111
  · exact end_11000
  · exact end_11001
  · exact end_11010
  · exact end_11011
  · exact end_11100
  · exact end_11101
  · exact end_11110
  · exact end_11111
theorem mem6 {a b c d e f : Nat} (ha : a = 40 ∨ a = 41) (hb : b = 40 ∨ b = 41) (hc : c = 40 ∨ c = 41) (hd : d = 40 ∨ d = 41) (he : e = 40 ∨ e = 41) (hf : f = 40 ∨ f = 41) : sixL a b c d e f ∈ bitsL 6 := by
  rcases ha with rfl | rfl <;> rcases hb with rfl | rfl <;> rcases hc with rfl | rfl <;> rcases hd with rfl | rfl <;> rcases he with rfl | rfl <;> rcases hf with rfl | rfl <;> decide
theorem erase5 : (bitsL 6).all (fun r => (List.range 6).all fun s => (bitsL 5).contains (r.eraseIdx s)) = true := by kernel_rfl
theorem str_of {x : Option V} {y : List Nat} (h : strOf x = y) (hy : y ≠ [0]) : x = some (.str y) := by
  match x, h with
  | some (.str s), h => rw [← h]; rfl
  | none, h => exact absurd h.symm hy
  | some (.obj _ _), h => exact absurd h.symm hy
  | some (.int _), h => exact absurd h.symm hy
  | some (.bool _), h => exact absurd h.symm hy
  | some (.lst _), h => exact absurd h.symm hy
  | some (.dct _), h => exact absurd h.symm hy
  | some (.tup _), h => exact absurd h.symm hy
  | some .none, h => exact absurd h.symm hy
end Mine.H
end
section
open PySem PySem.Calls PyProof.Rows PySem.W
set_option maxRecDepth 100000
set_option maxHeartbeats 4000000
namespace Mine.H
theorem body17 : F17.val.body = lawS 0 :: lawS 1 :: lawS 2 :: lawS 3 :: lawS 4 :: lawS 5 :: lawS 6 :: lawS 7 :: lawS 8 :: lawS 9 :: lawS 10 :: F17.val.body.drop 11 := by kernel_rfl
theorem at_bit {s : Int} {k : Nat} : 0 ≤ at5 s k ∧ at5 s k ≤ 1 := by unfold at5; split <;> omega
theorem six_all (n0 n1 n2 n3 n4 n5 s m : Int) (hs : 0 ≤ s ∧ s ≤ 5) (hm : m = 0 ∨ m = 1) : ∃ T U : List Nat, T = (([(spell n0 (at5 s 0) m 0, plain n0 (at5 s 0) m 0), (spell n1 (at5 s 1) m 0, plain n1 (at5 s 1) m 0), (spell n2 (at5 s 2) m 0, plain n2 (at5 s 2) m 0), (spell n3 (at5 s 3) m 0, plain n3 (at5 s 3) m 0), (spell n4 (at5 s 4) m 0, plain n4 (at5 s 4) m 0), (spell n5 (at5 s 5) m 1, plain n5 (at5 s 5) m 1)] : List (List Nat × List Nat)).map (·.1)).flatten ∧ U = (([(spell n0 (at5 s 0) m 0, plain n0 (at5 s 0) m 0), (spell n1 (at5 s 1) m 0, plain n1 (at5 s 1) m 0), (spell n2 (at5 s 2) m 0, plain n2 (at5 s 2) m 0), (spell n3 (at5 s 3) m 0, plain n3 (at5 s 3) m 0), (spell n4 (at5 s 4) m 0, plain n4 (at5 s 4) m 0), (spell n5 (at5 s 5) m 1, plain n5 (at5 s 5) m 1)] : List (List Nat × List Nat)).map (·.2)).flatten ∧ T.length ≤ 150 ∧ U.length ≤ 150 ∧ (stripF T).length ≤ 150 ∧ (stripF U).length ≤ 150 ∧ toldL T = U ∧
    rowF T = (if m = 1 then (sixL (sg n0) (sg n1) (sg n2) (sg n3) (sg n4) (sg n5)).eraseIdx s.toNat else sixL (sg n0) (sg n1) (sg n2) (sg n3) (sg n4) (sg n5)) ∧
    rowF U = (if m = 0 then (sixL (sg n0) (sg n1) (sg n2) (sg n3) (sg n4) (sg n5)).eraseIdx s.toNat else sixL (sg n0) (sg n1) (sg n2) (sg n3) (sg n4) (sg n5)) := by
  have hm' : 0 ≤ m ∧ m ≤ 1 := by omega
  obtain ⟨s0, p0, c0⟩ := cell_ok n0 (at5 s 0) m 0 at_bit hm' (by omega)
  obtain ⟨s1, p1, c1⟩ := cell_ok n1 (at5 s 1) m 0 at_bit hm' (by omega)
  obtain ⟨s2, p2, c2⟩ := cell_ok n2 (at5 s 2) m 0 at_bit hm' (by omega)
  obtain ⟨s3, p3, c3⟩ := cell_ok n3 (at5 s 3) m 0 at_bit hm' (by omega)
  obtain ⟨s4, p4, c4⟩ := cell_ok n4 (at5 s 4) m 0 at_bit hm' (by omega)
  obtain ⟨s5, p5, c5⟩ := cell_ok n5 (at5 s 5) m 1 at_bit hm' (by omega)
  refine ⟨_, _, rfl, rfl, ?_, ?_, ?_, ?_, ?_, ?_, ?_⟩
  · have := c0.lS; have := c1.lS; have := c2.lS; have := c3.lS; have := c4.lS; have := c5.lS
    simp only [List.map_cons, List.map_nil, List.flatten_cons, List.flatten_nil, List.length_append, List.length_nil]
    omega
  · have := c0.lP; have := c1.lP; have := c2.lP; have := c3.lP; have := c4.lP; have := c5.lP
    simp only [List.map_cons, List.map_nil, List.flatten_cons, List.flatten_nil, List.length_append, List.length_nil]
    omega
  · have := c0.ls; have := c1.ls; have := c2.ls; have := c3.ls; have := c4.ls; have := c5.ls
    simp only [List.map_cons, List.map_nil]
    rw [six_strip c0.gS c1.gS c2.gS c3.gS c4.gS c5.gS]
    simp only [List.flatten_cons, List.flatten_nil, List.length_append, List.length_nil]
    omega
  · have := c0.lp; have := c1.lp; have := c2.lp; have := c3.lp; have := c4.lp; have := c5.lp
    simp only [List.map_cons, List.map_nil]
    rw [six_strip c0.gP c1.gP c2.gP c3.gP c4.gP c5.gP]
    simp only [List.flatten_cons, List.flatten_nil, List.length_append, List.length_nil]
    omega
  · simp only [List.map_cons, List.map_nil]
    rw [six_told, c0.told, c1.told, c2.told, c3.told, c4.told, c5.told]
  · simp only [List.map_cons, List.map_nil]
    rw [six_row c0.gS c1.gS c2.gS c3.gS c4.gS c5.gS, c0.rs, c1.rs, c2.rs, c3.rs, c4.rs, c5.rs, miss hs]
  · simp only [List.map_cons, List.map_nil]
    rw [six_row c0.gP c1.gP c2.gP c3.gP c4.gP c5.gP, c0.rp, c1.rp, c2.rp, c3.rp, c4.rp, c5.rp, miss hs]
theorem lead_at6 {r : List Nat} (h : r ∈ bitsL 6) : leadLvl r = some (ivF r) := by
  have := List.all_eq_true.mp lead6 r h
  simpa using this
theorem lead_at5 {r : List Nat} (h : r ∈ bitsL 5) : leadLvl r = some (ivF r) := by
  have := List.all_eq_true.mp lead5 r h
  simpa using this
theorem er_mem {r : List Nat} (h : r ∈ bitsL 6) {s : Nat} (hs : s < 6) : r.eraseIdx s ∈ bitsL 5 := by
  have := List.all_eq_true.mp (List.all_eq_true.mp erase5 r h) s (List.mem_range.mpr hs)
  simpa using this
theorem back_at {r : List Nat} (h : r ∈ bitsL 6) {s : Nat} (hs : s < 6) : (lvl GP 37).F (nm "_law_back") [.str (r.eraseIdx s), .int ((ivF r - ivF (r.eraseIdx s)).fmod 7)] = some (.str r) := by
  have h1 := List.all_eq_true.mp (List.all_eq_true.mp six_back r h) s (List.mem_range.mpr hs)
  have f0 := Int.fmod_nonneg_of_pos (ivF r - ivF (r.eraseIdx s)) (b := 7) (by omega)
  have f1 := Int.fmod_lt_of_pos (ivF r - ivF (r.eraseIdx s)) (b := 7) (by omega)
  have h2 := List.all_eq_true.mp (List.all_eq_true.mp back5 _ (er_mem h hs)) ((ivF r - ivF (r.eraseIdx s)).fmod 7).toNat (List.mem_range.mpr (by omega))
  unfold backOk at h2
  rw [Int.toNat_of_nonneg f0] at h2
  have h3 := eq_of_beq h2
  have h4 := eq_of_beq h1
  rw [h4] at h3
  refine str_of h3 ?_
  intro e
  rw [e] at h
  revert h
  decide
theorem plain_all : Plain := by
  intro l hl
  obtain ⟨n0, n1, n2, n3, n4, n5, n6, hn, H0⟩ := s0 l hl
  refine ⟨41, by omega, ?_⟩
  have hn6 := hn n6 (by simp)
  have hsp : 0 ≤ n6.fmod 6 ∧ n6.fmod 6 ≤ 5 := by
    have f0 := Int.fmod_nonneg_of_pos n6 (b := 6) (by omega)
    have f1 := Int.fmod_lt_of_pos n6 (b := 6) (by omega)
    omega
  have hmo : (n6.fdiv 6).fmod 2 = 0 ∨ (n6.fdiv 6).fmod 2 = 1 := by
    have f0 := Int.fmod_nonneg_of_pos (n6.fdiv 6) (b := 2) (by omega)
    have f1 := Int.fmod_lt_of_pos (n6.fdiv 6) (b := 2) (by omega)
    omega
  have H1 := s1 17 n0 n1 n2 n3 n4 n5 n6 (.lst (l.map V.int)) hn6.1 hn6.2
  generalize hs : n6.fmod 6 = s at hsp H1
  generalize hm : (n6.fdiv 6).fmod 2 = m at hmo H1
  have H2 := s2 17 n0 n1 n2 n3 n4 n5 n6 s m (.lst (l.map V.int)) hn (by omega)
  obtain ⟨T, U, hT, hU, lT, lU, lsT, lsU, htold, hrT, hrU⟩ := six_all n0 n1 n2 n3 n4 n5 s m hsp hmo
  have hC : ([0, 1, 2, 3, 4, 5].map fun (k : Nat) => V.tup [.str (spell ([n0, n1, n2, n3, n4, n5].getD k 0) (at5 s k) m (laK k)), .str (plain ([n0, n1, n2, n3, n4, n5].getD k 0) (at5 s k) m (laK k))]) = ([(spell n0 (at5 s 0) m 0, plain n0 (at5 s 0) m 0), (spell n1 (at5 s 1) m 0, plain n1 (at5 s 1) m 0), (spell n2 (at5 s 2) m 0, plain n2 (at5 s 2) m 0), (spell n3 (at5 s 3) m 0, plain n3 (at5 s 3) m 0), (spell n4 (at5 s 4) m 0, plain n4 (at5 s 4) m 0), (spell n5 (at5 s 5) m 1, plain n5 (at5 s 5) m 1)] : List (List Nat × List Nat)).map pairV := rfl
  rw [hC] at H2
  generalize hCC : ([(spell n0 (at5 s 0) m 0, plain n0 (at5 s 0) m 0), (spell n1 (at5 s 1) m 0, plain n1 (at5 s 1) m 0), (spell n2 (at5 s 2) m 0, plain n2 (at5 s 2) m 0), (spell n3 (at5 s 3) m 0, plain n3 (at5 s 3) m 0), (spell n4 (at5 s 4) m 0, plain n4 (at5 s 4) m 0), (spell n5 (at5 s 5) m 1, plain n5 (at5 s 5) m 1)] : List (List Nat × List Nat)) = C at H2 hT hU
  have lC : C.length ≤ 1000 := by rw [← hCC]; simp
  have H3 := s3 17 C (.int m) (.int s) (numsV n0 n1 n2 n3 n4 n5 n6) (.lst (l.map V.int)) lC (by rw [← hT]; omega)
  rw [← hT] at H3
  have H4 := s4 17 T lT (.lst (C.map pairV)) (.int m) (.int s) (numsV n0 n1 n2 n3 n4 n5 n6) (.lst (l.map V.int))
  have H5 := s5 17 T lT (by rw [htold]; omega) (.lst (C.map pairV)) (.int m) (.int s) (numsV n0 n1 n2 n3 n4 n5 n6) (.lst (l.map V.int))
  rw [htold] at H5
  have H6 := s6 17 C (.str T) (.int m) (.int s) (numsV n0 n1 n2 n3 n4 n5 n6) (.lst (l.map V.int)) lC (by rw [← hU]; omega)
  rw [← hU] at H6
  have H7 := s7 17 T U (by omega) (by omega) (by omega) (by omega) (.lst (C.map pairV)) (.int m) (.int s) (numsV n0 n1 n2 n3 n4 n5 n6) (.lst (l.map V.int))
  have H8 := s8 17 (rowF T) (rowF U) (.str U) (.str T) (.lst (C.map pairV)) (.int s) (numsV n0 n1 n2 n3 n4 n5 n6) (.lst (l.map V.int)) m hmo
  have hB : sixL (sg n0) (sg n1) (sg n2) (sg n3) (sg n4) (sg n5) ∈ bitsL 6 := mem6 sg_cases.1 sg_cases.1 sg_cases.1 sg_cases.1 sg_cases.1 sg_cases.1
  have hst : s.toNat < 6 := by omega
  have hE := er_mem hB hst
  have hL6 := lead_at6 hB
  have hL5 := lead_at5 hE
  have hBk := back_at hB hst
  have hsix : sixL (sg n0) (sg n1) (sg n2) (sg n3) (sg n4) (sg n5) = [sg n0, sg n1, sg n2, sg n3, sg n4, sg n5] := rfl
  have hend := end_all _ hE
  generalize hR : sixL (sg n0) (sg n1) (sg n2) (sg n3) (sg n4) (sg n5) = R at *
  generalize hQ : R.eraseIdx s.toNat = Q at *
  have hsh : (if m = 1 then rowF T else rowF U) = Q := by
    rcases hmo with rfl | rfl
    · rw [if_neg (by omega), hrU, if_pos rfl]
    · rw [if_pos rfl, hrT, if_pos rfl]
  have hlo : (if m = 1 then rowF U else rowF T) = R := by
    rcases hmo with rfl | rfl
    · rw [if_neg (by omega), hrT, if_neg (by omega)]
    · rw [if_pos rfl, hrU, if_neg (by omega)]
  rw [hsh] at H8
  obtain ⟨ns, fs, a1, a2, a3⟩ := lead_ex hL6
  obtain ⟨ns', fs', b1, b2, b3⟩ := lead_ex hL5
  have H9 := s9 17 (rowF T) (rowF U) Q (.str U) (.str T) (.lst (C.map pairV)) (.int s) (numsV n0 n1 n2 n3 n4 n5 n6) (.lst (l.map V.int)) m hmo (by rw [hlo]; exact a1) a2 a3 b1 b2 b3
  rw [hsix] at hBk
  have H10 := s10 17 Q ((ivF R - ivF Q).fmod 7) n0 n1 n2 n3 n4 n5 n6 (.lst [.str (rowF T), .str (rowF U)]) (.str U) (.str T) (.lst (C.map pairV)) (.int m) (.int s) (.lst (l.map V.int)) (by rw [← hsix] at hBk ⊢; exact hBk)
  have H0 := H0 30
  simp only [Nat.reduceAdd] at H0 H1 H2 H3 H4 H5 H6 H7 H8 H9 H10
  have hx : ∃ ρ', (lvl GP 40).X c17 [(nm "script", .val (.lst (l.map V.int)))] F17.val.body = some (.ret (.bool true), ρ') := by
    show ∃ ρ', execL (lvl GP 39) c17 _ _ = _
    rw [F17.2] at H0
    have e0 : F17.val.body.getD 0 (.Pass default) = lawS 0 := rfl
    rw [e0] at H0
    rw [body17]
    rw [execL_step H0]
    have hend := hend (.val (.int ((ivF R - ivF Q).fmod 7))) (.val (.lst [.str (rowF T), .str (rowF U)])) (.val (.str U)) (.val (.str T)) (.val (.lst (C.map pairV))) (.val (.int m)) (.val (.int s)) (.val (numsV n0 n1 n2 n3 n4 n5 n6)) (.val (.lst (l.map V.int)))
    rw [F17.2] at hend
    simp only [numsV, nm] at H1 H2 H3 H4 H5 H6 H7 H8 H9 H10 hend ⊢
    rw [execL_step H1, execL_step H2, execL_step H3, execL_step H4, execL_step H5, execL_step H6, execL_step H7, execL_step H8, execL_step H9, execL_step H10]
    generalize execL (lvl GP 39) c17 _ _ = X at hend ⊢
    match X, hend with
    | some (fl, ρ'), hend =>
      simp only [Option.map_some, Option.some.injEq] at hend
      exact ⟨ρ', by rw [hend]⟩
  obtain ⟨ρ', h⟩ := hx
  rw [← F17.2] at h
  exact F_of (g := fnT 17) (by kernel_rfl) (by kernel_rfl) (by kernel_rfl) h
theorem law_holds : RW.Holds := law_of plain_all
end Mine.H
end

theorem PySem.Challenge.cw_st0046_02_holds : PySem.Challenge.rw_st0046_02.Holds :=
  Mine.H.law_holds
